/-
  Seat b2087a: THE WALK of LawS2087CExact (3) where all lengths are within 1024, in four ways: the signature empty or not, the commitment empty or not.
-/
import Derived.Test.YbulkaqeuSplit
import Derived.Test.YbulkaqeuLaws
import Derived.Deep.RegionWith
namespace Go.Proofs.Ybulkaqeu
open Go.RowKit

theorem slen_n' (h e : Int) : IntKind.u64.wrap (wrap64 (((push h).length : Int) + 5 + e)) = slen h e 0 := by
  rw [IntKind.wrap_u64, slen, if_pos rfl]
  unfold wrap64
  omega

theorem slen_s' (h e : Int) (n : Nat) (hn : 0 < n) : IntKind.u64.wrap (wrap64 (wrap64 (((push h).length : Int) + 5 + e) + (1 + (n : Int)))) = slen h e n := by
  rw [IntKind.wrap_u64, slen, if_neg (by omega)]
  unfold wrap64
  omega

theorem one_pos (h e : Int) (s : ByteArray) : 0 < (one h e s).length := by simp [one]; omega
theorem two_pos (val : Int) (P C : List Int) : 0 < (two val P C).length := by simp [two]; omega
theorem le_max : [255, 255, 255, 255] = le 4 4294967295 := rfl

theorem own_four (w : World) : Own (w.alloc (.cells #[.int .u8 255, .int .u8 255, .int .u8 255, .int .u8 255] 5)) w.heap.size (.slice (some ⟨w.heap.size, 0, none⟩) 4 4) [255, 255, 255, 255] :=
  own_lit w w.heap.size [255, 255, 255, 255] (Nat.le_refl _) (by simp)

theorem row_next (u : World) (o : Obj) (z : Int) : Row ((u.alloc o).alloc (.cells #[.int .u8 z] 5)) (.slice (some ⟨u.heap.size + 1, 0, none⟩) 1 1) [z] := by
  have h := row_one (u.alloc o) z
  have e : (u.alloc o).heap.size = u.heap.size + 1 := by simp
  rw [e] at h
  exact h

/-- A row that was begun later lies in another block. -/
theorem Own.apart {w0 w1 : World} {B : Nat} {v u : Value} {l m : List Int} (ho : Own w0 B v l) (hu : Own w1 w0.heap.size u m) : ∀ k, u.ownBlock = some k → some k ≠ v.ownBlock := by
  intro k hk he
  have h1 := (ho.lt k he.symm).2
  have h2 := (hu.lt k hk).1
  omega

theorem equal_true (w : World) (g1 c1 g2 c2 N : Nat) (l : List Int) (hN : l.length = N) {B1 B2 : Nat} (h1 : Own w B1 (.slice (some ⟨g1, 0, none⟩) N c1) l) (h2 : Own w B2 (.slice (some ⟨g2, 0, none⟩) N c2) l) :
    Calls Yba.prog 9 #[.slice (some ⟨g1, 0, none⟩) N c1, .slice (some ⟨g2, 0, none⟩) N c2] w fun e w' => e = .returned (.bool true) ∧ w' = w := by
  have h := Yba.bytes_Equal_all (some ⟨g1, 0, none⟩) (some ⟨g2, 0, none⟩) N c1 N c2 l l w hN hN (h1.bytes hN) (h2.bytes hN)
  rw [beq_self_eq_true] at h
  exact h

set_option maxHeartbeats 2000000 in
theorem exact_sc (pa ca : Option Addr) (pn pc cn cc : Nat) (sig : ByteArray) (h e val : Int) (P C : List Int) (w : World)
    (hh : h < 9223372036854775808) (hsig : sig.size ≤ 1024) (hpn : P.length = pn) (hcn : C.length = cn) (hp : pn ≤ 1024) (hc : cn ≤ 1024)
    (hP : Row w (.slice pa pn pc) P) (hC : Row w (.slice ca cn cc) C) (hs0 : 0 < sig.size) (hc0 : 0 < cn) :
    Calls Yba.prog 3 #[.slice pa pn pc, .string sig, .int .i64 h, .int .i64 e, .int .i64 val, .slice ca cn cc] w fun r w' => r = .returned (.bool true) ∧ Below w.heap.size w w' := by
  have hSP := fun W hr hq => split_any pa ca pn pc cn cc sig h e val P C W hh hsig hpn hcn hp hc hr hq
  have hPU := fun W => cpush_any h hh W
  have hpl := push_le h
  have hpne := push_ne h
  have hCS := fun W => ccs_any (slen h e sig.size) (slen_bd h e sig.size).1 (slen_bd h e sig.size).2 W
  have HP : Hid (Row w (.slice pa pn pc) P) := hP
  have HC : Hid (Row w (.slice ca cn cc) C) := hC
  have HPN : Hid (P.length = pn) := hpn
  have HCN : Hid (C.length = cn) := hcn
  obtain ⟨U, hU⟩ : ∃ U, U = val % 18446744073709551616 := ⟨_, rfl⟩
  have HU : Hid (U = val % 18446744073709551616) := hU
  have hUw : IntKind.u64.wrap val = U := by rw [IntKind.wrap_u64, hU]
  have hLU := fun B b l W ho hB hl => le_eight B U (by omega) (by omega) b l W ho hB hl
  obtain ⟨N1, hN1⟩ : ∃ N, (one h e sig).length = N := ⟨_, rfl⟩
  obtain ⟨N2, hN2⟩ : ∃ N, (two val P C).length = N := ⟨_, rfl⟩
  have HN1 : Hid ((one h e sig).length = N1) := hN1
  have HN2 : Hid ((two val P C).length = N2) := hN2
  have p1 : 0 < N1 := by rw [← hN1]; exact one_pos h e sig
  have p2 : 0 < N2 := by rw [← hN2]; exact two_pos val P C
  have hse : sig.toList.isEmpty = false := str_ne sig hs0
  have hS := slen_s' h e sig.size hs0
  have cl := csz_le (slen h e sig.size)
  have cp := csz_le pn
  have cc' := csz_le cn
  have t1 : decide (1024 < (pn : Int)) = false := by simp; omega
  have t2 : decide (1024 < (sig.size : Int)) = false := by simp; omega
  have t3 : decide (1024 < (cn : Int)) = false := by simp; omega
  clear hh hP hC hpn hcn hU hN1 hN2
  go_enter Yba.func3, Yba.ntmps3
  go_wp2_with fail
  refine (hSP _ (HP.out.alloc _) (HC.out.alloc _)).mono ?_
  rintro r wS ⟨v1, v2, rfl, q1, q2, bS⟩
  obtain ⟨g1, c1, rfl, _, _⟩ := q1.shapeN N1 HN1.out p1
  obtain ⟨g2, c2, rfl, _, _⟩ := q2.shapeN N2 HN2.out p2
  have HQ1 : Hid (Own wS w.heap.size (.slice (some ⟨g1, 0, none⟩) N1 c1) (one h e sig)) := q1.base (by simp)
  have HQ2 : Hid (Own wS w.heap.size (.slice (some ⟨g2, 0, none⟩) N2 c2) (two val P C)) := q2.base (by simp)
  have HS : Hid (Below w.heap.size w wS) := ((Below.refl _ _).alloc (Nat.le_refl _) _).trans (bS.mono (by simp))
  clear hSP q1 q2 bS t1 t2 t3
  go_wp2_with fail
  refine (le_four wS.heap.size 1 (by omega) (by omega) (.slice none 0 0) [] wS (Own.nil _ _) (Nat.le_refl _) (by simp)).mono ?_
  rintro r u1 ⟨x1, rfl, o1, b1⟩
  obtain ⟨L1, H1⟩ := named ([] ++ le 4 1)
  rw [← H1.out] at o1
  have n1 : L1.length = 4 := len_app H1
  have k1 := b1.size
  go_wp2_with (first | (at_builtin; refine append_rowL rfl (.tmp 47) (.tmp 48) rfl wS.heap.size x1 _ L1 [1] rfl rfl (o1.alloc _) (row_one u1 _) (by simp; omega) (by simp; omega) ?_; intro x2 u2 L2 H2 o2 _ b2; have n2 : L2.length = 5 := (len_app H2).trans (by rw [n1]; rfl); have b2' := (b1.alloc k1 _).trans b2) | (at_builtin; refine append_zerosL rfl (.tmp 50) (.const (.int .i64 32)) rfl wS.heap.size x2 L2 rfl rfl o2 (ne_app H2 (by simp)) (by omega) b2'.size ?_; intro x3 u3 L3 H3 o3 b3; have n3 : L3.length = 37 := (len_app H3).trans (by rw [n2]; rfl); have b3' := b2'.trans b3))
  clear n1 n2 k1 o1 b1 o2 b2 b3
  refine (le_four wS.heap.size 4294967295 (by omega) (by omega) x3 L3 u3 o3 b3'.size (by omega)).mono ?_
  rintro r u4 ⟨x4, rfl, o4, b4⟩
  obtain ⟨L4, H4⟩ := named (L3 ++ le 4 4294967295)
  rw [← H4.out] at o4
  have n4 : L4.length = 41 := (len_app H4).trans (by rw [n3]; rfl)
  have b4' := b3'.trans b4
  clear n3 o3 b3' b4 b2'
  go_wp2_with fail
  refine (hPU u4).mono ?_
  rintro r u5 ⟨vh, rfl, oh, bh⟩
  have hap := Own.apart o4 oh
  obtain ⟨gh, ch, rfl, _, hch⟩ := oh.shape hpne
  have o4' := o4.later bh
  have b5' := b4'.trans (bh.mono b4'.size)
  have HAP : Hid (∀ k, (Value.slice (some ⟨gh, 0, none⟩) (push h).length ch).ownBlock = some k → some k ≠ x4.ownBlock) := hap
  clear hPU hap o4 bh b4'
  go_wp2_with fail
  refine (hCS u5).mono ?_
  rintro r u6 ⟨x6, rfl, oc, bc⟩
  have o4'' := o4'.later bc
  have oh' := oh.later bc
  have b6' := b5'.trans (bc.mono b5'.size)
  have k6 := b6'.size
  clear hCS bc b5' o4' oh hS
  go_wp2_with (first | (at_builtin; refine append_rowL rfl (.tmp 68) (.tmp 71) rfl wS.heap.size x4 x6 L4 (csz (slen h e sig.size)) rfl rfl o4'' oc.row (by omega) k6 ?_; intro x7 u7 L7 H7 o7 g7 b7; have b7' := b6'.trans b7; have oh7 := oh'.grown g7 HAP.out; have n7 : L7.length ≤ 50 := (by rw [len_app H7]; omega)) | (at_builtin; refine append_rowL rfl (.tmp 73) (.tmp 74) rfl wS.heap.size x7 _ L7 (push h) rfl rfl o7 oh7.row (by omega) b7'.size ?_; intro x8 u8 L8 H8 o8 _ b8; have b8' := b7'.trans b8; have k8 := b8'.size; have n8 : L8.length ≤ 60 := (by rw [len_app H8]; omega)) | (at_builtin; refine append_rowL rfl (.tmp 78) (.tmp 82) rfl wS.heap.size x8 _ L8 [(sig.size : Int) % 256] rfl rfl (o8.alloc _) (row_one u8 _) (by simp; omega) (by simp; omega) ?_; intro x9 u9 L9 H9 o9 _ b9; have b9' := (b8'.alloc k8 _).trans b9; have n9 : L9.length ≤ 61 := (by rw [len_app H9]; simp; omega)) | (at_builtin; refine append_strL rfl (.tmp 84) (.tmp 85) rfl wS.heap.size x9 L9 sig rfl rfl o9 (by omega) b9'.size ?_; intro x10 u10 L10 H10 o10 b10; have b10' := b9'.trans b10; have k10 := b10'.size; have n10 : L10.length ≤ 1085 := (by rw [len_app H10, nums_length]; omega)) | (at_builtin; refine append_rowL rfl (.tmp 87) (.tmp 91) rfl wS.heap.size x10 _ L10 [wrap64 (4 + e) % 256] rfl rfl (o10.alloc _) (row_one u10 _) (by simp; omega) (by simp; omega) ?_; intro x11 u11 L11 H11 o11 _ b11; have b11' := (b10'.alloc k10 _).trans b11) | (at_builtin; refine append_rowL rfl (.tmp 97) (.tmp 100) rfl u11.heap.size _ _ [255, 255, 255, 255] [2] rfl rfl ((own_four u11).alloc _) (row_next u11 _ _) (by simp) (by simp; omega) ?_; intro x12 u12 L12 H12 o12 _ b12; have n12 : L12.length = 5 := (len_app H12).trans rfl; have b12' := (((Below.refl u11.heap.size u11).alloc (Nat.le_refl _) _).alloc (by simp) _).trans b12))
  have HONE : Hid (L11 = one h e sig) := by
    unfold Hid
    rw [H11.out, wrap_mod, H10.out, H9.out, H8.out, H7.out, H4.out, H3.out, H2.out, H1.out, one, sigs, if_neg (by omega)]
    simp only [List.nil_append, List.append_assoc]
  rw [HONE.out] at o11
  obtain ⟨g3, c3, rfl, _, _⟩ := o11.shapeN N1 HN1.out p1
  have HO : Hid (Own u11 wS.heap.size (.slice (some ⟨g3, 0, none⟩) N1 c3) (one h e sig)) := o11
  have HB11 : Hid (Below wS.heap.size wS u11) := b11'
  clear n4 o4'' oc b6' k6 n7 o7 g7 b7 b7' oh' oh7 n8 k8 o8 b8 b8' b11 o11 b11' cl b12 n9 o9 b9 b9' n10 k10 o10 b10 b10'
  refine (hLU u11.heap.size x12 L12 u12 o12 b12'.size (by omega)).mono ?_
  rintro r u13 ⟨x13, rfl, o13, b13⟩
  obtain ⟨L13, H13⟩ := named (L12 ++ le 8 U)
  rw [← H13.out] at o13
  have n13 : L13.length = 13 := (len_app H13).trans (by rw [n12, le_length])
  have b13' := b12'.trans b13
  clear n12 o12 b12' b13 hLU
  go_wp2_with fail
  refine (ccs_any pn (by omega) (by omega) u13).mono ?_
  rintro r u14 ⟨x14, rfl, od, bd⟩
  have o13' := o13.later bd
  have b14' := b13'.trans (bd.mono b13'.size)
  have k14 := b14'.size
  have HRP : Hid (∀ u', Below u11.heap.size u11 u' → Row u' (.slice pa pn pc) P) := fun u' hb => HP.out.later (HS.out.trans ((HB11.out.trans (hb.mono HB11.out.size)).mono HS.out.size))
  clear o13 b13' bd
  go_wp2_with (first | (at_builtin; refine append_rowL rfl (.tmp 106) (.tmp 110) rfl u11.heap.size x13 x14 L13 (csz pn) rfl rfl o13' od.row (by omega) k14 ?_; intro x15 u15 L15 H15 o15 _ b15; have b15' := b14'.trans b15; have n15 : L15.length ≤ 22 := (by rw [len_app H15]; omega); have hrp := HRP.out u15 b15') | (at_builtin; refine append_rowL rfl (.tmp 112) (.tmp 113) rfl u11.heap.size x15 _ L15 P rfl rfl o15 hrp (by rw [HPN.out]; omega) b15'.size ?_; intro x16 u16 L16 H16 o16 _ b16; have b16' := b15'.trans b16; have n16 : L16.length ≤ 1046 := (by rw [len_app H16, HPN.out]; omega)))
  clear n13 o13' od b14' k14 n15 o15 b15 b15' hrp b16 HRP
  refine (le_eight u11.heap.size 0 (by omega) (by omega) x16 L16 u16 o16 b16'.size (by omega)).mono ?_
  rintro r u17 ⟨x17, rfl, o17, b17⟩
  obtain ⟨L17, H17⟩ := named (L16 ++ le 8 0)
  rw [← H17.out] at o17
  have n17 : L17.length ≤ 1054 := by rw [len_app H17, le_length]; omega
  have b17' := b16'.trans b17
  clear n16 o16 b16' b17
  go_wp2_with fail
  refine (ccs_any cn (by omega) (by omega) u17).mono ?_
  rintro r u18 ⟨x18, rfl, oe, be⟩
  have o17' := o17.later be
  have b18' := b17'.trans (be.mono b17'.size)
  have k18 := b18'.size
  have HRC : Hid (∀ u', Below u11.heap.size u11 u' → Row u' (.slice ca cn cc) C) := fun u' hb => HC.out.later (HS.out.trans ((HB11.out.trans (hb.mono HB11.out.size)).mono HS.out.size))
  clear o17 b17' be
  go_wp2_with (first | (at_builtin; refine append_rowL rfl (.tmp 120) (.tmp 124) rfl u11.heap.size x17 x18 L17 (csz cn) rfl rfl o17' oe.row (by omega) k18 ?_; intro x19 u19 L19 H19 o19 _ b19; have b19' := b18'.trans b19; have n19 : L19.length ≤ 1070 := (by rw [len_app H19]; omega); have hrc := HRC.out u19 b19') | (at_builtin; refine append_rowL rfl (.tmp 126) (.tmp 127) rfl u11.heap.size x19 _ L19 C rfl rfl o19 hrc (by rw [HCN.out]; omega) b19'.size ?_; intro x20 u20 L20 H20 o20 _ b20; have b20' := b19'.trans b20; have n20 : L20.length ≤ 2100 := (by rw [len_app H20, HCN.out]; omega)))
  clear n17 o17' oe b18' k18 n19 o19 b19 b19' hrc b20 HRC
  refine (le_four u11.heap.size 0 (by omega) (by omega) x20 L20 u20 o20 b20'.size (by omega)).mono ?_
  rintro r u21 ⟨x21, rfl, o21, b21⟩
  have HTWO : Hid (L20 ++ le 4 0 = two val P C) := by
    unfold Hid
    rw [H20.out, H19.out, H17.out, H16.out, H15.out, H13.out, H12.out, HU.out, two, HCN.out, HPN.out, if_neg (by omega), if_neg (by omega), ← le_max]
    simp only [List.append_assoc]
  rw [HTWO.out] at o21
  obtain ⟨g4, c4, rfl, _, _⟩ := o21.shapeN N2 HN2.out p2
  have HB21 : Hid (Below u11.heap.size u11 u21) := b20'.trans b21
  have hbS := HB11.out.trans (HB21.out.mono HB11.out.size)
  have hE1 := equal_true u21 g1 c1 g3 c3 N1 (one h e sig) HN1.out (HQ1.out.later hbS) (HO.out.later HB21.out)
  have hE2 := equal_true u21 g2 c2 g4 c4 N2 (two val P C) HN2.out (HQ2.out.later hbS) o21
  have HF : Hid (Below w.heap.size w u21) := HS.out.trans (hbS.mono HS.out.size)
  clear o20 b20' b21 o21 hbS
  go_wp2_with (first | (go_at_call_of 9 (Value.slice (some ⟨g1, 0, none⟩) N1 c1); refine hE1.mono ?_; rintro r w' ⟨rfl, rfl⟩) | (go_at_call_of 9 (Value.slice (some ⟨g2, 0, none⟩) N2 c2); refine hE2.mono ?_; rintro r w' ⟨rfl, rfl⟩))
  go_ret
  exact ⟨rfl, HF.out⟩

set_option maxHeartbeats 2000000 in
theorem exact_sn (pa ca : Option Addr) (pn pc cn cc : Nat) (sig : ByteArray) (h e val : Int) (P C : List Int) (w : World)
    (hh : h < 9223372036854775808) (hsig : sig.size ≤ 1024) (hpn : P.length = pn) (hcn : C.length = cn) (hp : pn ≤ 1024) (hc : cn ≤ 1024)
    (hP : Row w (.slice pa pn pc) P) (hC : Row w (.slice ca cn cc) C) (hs0 : 0 < sig.size) (hc0 : cn = 0) :
    Calls Yba.prog 3 #[.slice pa pn pc, .string sig, .int .i64 h, .int .i64 e, .int .i64 val, .slice ca cn cc] w fun r w' => r = .returned (.bool true) ∧ Below w.heap.size w w' := by
  have hSP := fun W hr hq => split_any pa ca pn pc cn cc sig h e val P C W hh hsig hpn hcn hp hc hr hq
  have hPU := fun W => cpush_any h hh W
  have hpl := push_le h
  have hpne := push_ne h
  have hCS := fun W => ccs_any (slen h e sig.size) (slen_bd h e sig.size).1 (slen_bd h e sig.size).2 W
  have HP : Hid (Row w (.slice pa pn pc) P) := hP
  have HC : Hid (Row w (.slice ca cn cc) C) := hC
  have HPN : Hid (P.length = pn) := hpn
  have HCN : Hid (C.length = cn) := hcn
  obtain ⟨U, hU⟩ : ∃ U, U = val % 18446744073709551616 := ⟨_, rfl⟩
  have HU : Hid (U = val % 18446744073709551616) := hU
  have hUw : IntKind.u64.wrap val = U := by rw [IntKind.wrap_u64, hU]
  have hLU := fun B b l W ho hB hl => le_eight B U (by omega) (by omega) b l W ho hB hl
  obtain ⟨N1, hN1⟩ : ∃ N, (one h e sig).length = N := ⟨_, rfl⟩
  obtain ⟨N2, hN2⟩ : ∃ N, (two val P C).length = N := ⟨_, rfl⟩
  have HN1 : Hid ((one h e sig).length = N1) := hN1
  have HN2 : Hid ((two val P C).length = N2) := hN2
  have p1 : 0 < N1 := by rw [← hN1]; exact one_pos h e sig
  have p2 : 0 < N2 := by rw [← hN2]; exact two_pos val P C
  have hse : sig.toList.isEmpty = false := str_ne sig hs0
  have hS := slen_s' h e sig.size hs0
  subst hc0
  have cl := csz_le (slen h e sig.size)
  have cp := csz_le pn
  have t1 : decide (1024 < (pn : Int)) = false := by simp; omega
  have t2 : decide (1024 < (sig.size : Int)) = false := by simp; omega
  clear hc
  clear hh hP hC hpn hcn hU hN1 hN2
  go_enter Yba.func3, Yba.ntmps3
  go_wp2_with fail
  refine (hSP _ (HP.out.alloc _) (HC.out.alloc _)).mono ?_
  rintro r wS ⟨v1, v2, rfl, q1, q2, bS⟩
  obtain ⟨g1, c1, rfl, _, _⟩ := q1.shapeN N1 HN1.out p1
  obtain ⟨g2, c2, rfl, _, _⟩ := q2.shapeN N2 HN2.out p2
  have HQ1 : Hid (Own wS w.heap.size (.slice (some ⟨g1, 0, none⟩) N1 c1) (one h e sig)) := q1.base (by simp)
  have HQ2 : Hid (Own wS w.heap.size (.slice (some ⟨g2, 0, none⟩) N2 c2) (two val P C)) := q2.base (by simp)
  have HS : Hid (Below w.heap.size w wS) := ((Below.refl _ _).alloc (Nat.le_refl _) _).trans (bS.mono (by simp))
  clear hSP q1 q2 bS t1 t2
  go_wp2_with fail
  refine (le_four wS.heap.size 1 (by omega) (by omega) (.slice none 0 0) [] wS (Own.nil _ _) (Nat.le_refl _) (by simp)).mono ?_
  rintro r u1 ⟨x1, rfl, o1, b1⟩
  obtain ⟨L1, H1⟩ := named ([] ++ le 4 1)
  rw [← H1.out] at o1
  have n1 : L1.length = 4 := len_app H1
  have k1 := b1.size
  go_wp2_with (first | (at_builtin; refine append_rowL rfl (.tmp 47) (.tmp 48) rfl wS.heap.size x1 _ L1 [1] rfl rfl (o1.alloc _) (row_one u1 _) (by simp; omega) (by simp; omega) ?_; intro x2 u2 L2 H2 o2 _ b2; have n2 : L2.length = 5 := (len_app H2).trans (by rw [n1]; rfl); have b2' := (b1.alloc k1 _).trans b2) | (at_builtin; refine append_zerosL rfl (.tmp 50) (.const (.int .i64 32)) rfl wS.heap.size x2 L2 rfl rfl o2 (ne_app H2 (by simp)) (by omega) b2'.size ?_; intro x3 u3 L3 H3 o3 b3; have n3 : L3.length = 37 := (len_app H3).trans (by rw [n2]; rfl); have b3' := b2'.trans b3))
  clear n1 n2 k1 o1 b1 o2 b2 b3
  refine (le_four wS.heap.size 4294967295 (by omega) (by omega) x3 L3 u3 o3 b3'.size (by omega)).mono ?_
  rintro r u4 ⟨x4, rfl, o4, b4⟩
  obtain ⟨L4, H4⟩ := named (L3 ++ le 4 4294967295)
  rw [← H4.out] at o4
  have n4 : L4.length = 41 := (len_app H4).trans (by rw [n3]; rfl)
  have b4' := b3'.trans b4
  clear n3 o3 b3' b4 b2'
  go_wp2_with fail
  refine (hPU u4).mono ?_
  rintro r u5 ⟨vh, rfl, oh, bh⟩
  have hap := Own.apart o4 oh
  obtain ⟨gh, ch, rfl, _, hch⟩ := oh.shape hpne
  have o4' := o4.later bh
  have b5' := b4'.trans (bh.mono b4'.size)
  have HAP : Hid (∀ k, (Value.slice (some ⟨gh, 0, none⟩) (push h).length ch).ownBlock = some k → some k ≠ x4.ownBlock) := hap
  clear hPU hap o4 bh b4'
  go_wp2_with fail
  refine (hCS u5).mono ?_
  rintro r u6 ⟨x6, rfl, oc, bc⟩
  have o4'' := o4'.later bc
  have oh' := oh.later bc
  have b6' := b5'.trans (bc.mono b5'.size)
  have k6 := b6'.size
  clear hCS bc b5' o4' oh hS
  go_wp2_with (first | (at_builtin; refine append_rowL rfl (.tmp 68) (.tmp 71) rfl wS.heap.size x4 x6 L4 (csz (slen h e sig.size)) rfl rfl o4'' oc.row (by omega) k6 ?_; intro x7 u7 L7 H7 o7 g7 b7; have b7' := b6'.trans b7; have oh7 := oh'.grown g7 HAP.out; have n7 : L7.length ≤ 50 := (by rw [len_app H7]; omega)) | (at_builtin; refine append_rowL rfl (.tmp 73) (.tmp 74) rfl wS.heap.size x7 _ L7 (push h) rfl rfl o7 oh7.row (by omega) b7'.size ?_; intro x8 u8 L8 H8 o8 _ b8; have b8' := b7'.trans b8; have k8 := b8'.size; have n8 : L8.length ≤ 60 := (by rw [len_app H8]; omega)) | (at_builtin; refine append_rowL rfl (.tmp 78) (.tmp 82) rfl wS.heap.size x8 _ L8 [(sig.size : Int) % 256] rfl rfl (o8.alloc _) (row_one u8 _) (by simp; omega) (by simp; omega) ?_; intro x9 u9 L9 H9 o9 _ b9; have b9' := (b8'.alloc k8 _).trans b9; have n9 : L9.length ≤ 61 := (by rw [len_app H9]; simp; omega)) | (at_builtin; refine append_strL rfl (.tmp 84) (.tmp 85) rfl wS.heap.size x9 L9 sig rfl rfl o9 (by omega) b9'.size ?_; intro x10 u10 L10 H10 o10 b10; have b10' := b9'.trans b10; have k10 := b10'.size; have n10 : L10.length ≤ 1085 := (by rw [len_app H10, nums_length]; omega)) | (at_builtin; refine append_rowL rfl (.tmp 87) (.tmp 91) rfl wS.heap.size x10 _ L10 [wrap64 (4 + e) % 256] rfl rfl (o10.alloc _) (row_one u10 _) (by simp; omega) (by simp; omega) ?_; intro x11 u11 L11 H11 o11 _ b11; have b11' := (b10'.alloc k10 _).trans b11) | (at_builtin; refine append_rowL rfl (.tmp 97) (.tmp 100) rfl u11.heap.size _ _ [255, 255, 255, 255] [1] rfl rfl ((own_four u11).alloc _) (row_next u11 _ _) (by simp) (by simp; omega) ?_; intro x12 u12 L12 H12 o12 _ b12; have n12 : L12.length = 5 := (len_app H12).trans rfl; have b12' := (((Below.refl u11.heap.size u11).alloc (Nat.le_refl _) _).alloc (by simp) _).trans b12))
  have HONE : Hid (L11 = one h e sig) := by
    unfold Hid
    rw [H11.out, wrap_mod, H10.out, H9.out, H8.out, H7.out, H4.out, H3.out, H2.out, H1.out, one, sigs, if_neg (by omega)]
    simp only [List.nil_append, List.append_assoc]
  rw [HONE.out] at o11
  obtain ⟨g3, c3, rfl, _, _⟩ := o11.shapeN N1 HN1.out p1
  have HO : Hid (Own u11 wS.heap.size (.slice (some ⟨g3, 0, none⟩) N1 c3) (one h e sig)) := o11
  have HB11 : Hid (Below wS.heap.size wS u11) := b11'
  clear n4 o4'' oc b6' k6 n7 o7 g7 b7 b7' oh' oh7 n8 k8 o8 b8 b8' b11 o11 b11' cl b12 n9 o9 b9 b9' n10 k10 o10 b10 b10'
  refine (hLU u11.heap.size x12 L12 u12 o12 b12'.size (by omega)).mono ?_
  rintro r u13 ⟨x13, rfl, o13, b13⟩
  obtain ⟨L13, H13⟩ := named (L12 ++ le 8 U)
  rw [← H13.out] at o13
  have n13 : L13.length = 13 := (len_app H13).trans (by rw [n12, le_length])
  have b13' := b12'.trans b13
  clear n12 o12 b12' b13 hLU
  go_wp2_with fail
  refine (ccs_any pn (by omega) (by omega) u13).mono ?_
  rintro r u14 ⟨x14, rfl, od, bd⟩
  have o13' := o13.later bd
  have b14' := b13'.trans (bd.mono b13'.size)
  have k14 := b14'.size
  have HRP : Hid (∀ u', Below u11.heap.size u11 u' → Row u' (.slice pa pn pc) P) := fun u' hb => HP.out.later (HS.out.trans ((HB11.out.trans (hb.mono HB11.out.size)).mono HS.out.size))
  clear o13 b13' bd
  go_wp2_with (first | (at_builtin; refine append_rowL rfl (.tmp 106) (.tmp 110) rfl u11.heap.size x13 x14 L13 (csz pn) rfl rfl o13' od.row (by omega) k14 ?_; intro x15 u15 L15 H15 o15 _ b15; have b15' := b14'.trans b15; have n15 : L15.length ≤ 22 := (by rw [len_app H15]; omega); have hrp := HRP.out u15 b15') | (at_builtin; refine append_rowL rfl (.tmp 112) (.tmp 113) rfl u11.heap.size x15 _ L15 P rfl rfl o15 hrp (by rw [HPN.out]; omega) b15'.size ?_; intro x16 u16 L16 H16 o16 _ b16; have b16' := b15'.trans b16; have n16 : L16.length ≤ 1046 := (by rw [len_app H16, HPN.out]; omega)))
  clear n13 o13' od b14' k14 n15 o15 b15 b15' hrp b16 HRP
  refine (le_four u11.heap.size 0 (by omega) (by omega) x16 L16 u16 o16 b16'.size (by omega)).mono ?_
  rintro r u21 ⟨x21, rfl, o21, b21⟩
  have HTWO : Hid (L16 ++ le 4 0 = two val P C) := by
    unfold Hid
    rw [H16.out, H15.out, H13.out, H12.out, HU.out, two, HCN.out, HPN.out, if_pos rfl, if_pos rfl, ← le_max]
    simp only [List.nil_append, List.append_assoc]
  rw [HTWO.out] at o21
  obtain ⟨g4, c4, rfl, _, _⟩ := o21.shapeN N2 HN2.out p2
  have HB21 : Hid (Below u11.heap.size u11 u21) := b16'.trans b21
  have hbS := HB11.out.trans (HB21.out.mono HB11.out.size)
  have hE1 := equal_true u21 g1 c1 g3 c3 N1 (one h e sig) HN1.out (HQ1.out.later hbS) (HO.out.later HB21.out)
  have hE2 := equal_true u21 g2 c2 g4 c4 N2 (two val P C) HN2.out (HQ2.out.later hbS) o21
  have HF : Hid (Below w.heap.size w u21) := HS.out.trans (hbS.mono HS.out.size)
  clear o16 b16' b21 o21 hbS
  go_wp2_with (first | (go_at_call_of 9 (Value.slice (some ⟨g1, 0, none⟩) N1 c1); refine hE1.mono ?_; rintro r w' ⟨rfl, rfl⟩) | (go_at_call_of 9 (Value.slice (some ⟨g2, 0, none⟩) N2 c2); refine hE2.mono ?_; rintro r w' ⟨rfl, rfl⟩))
  go_ret
  exact ⟨rfl, HF.out⟩

set_option maxHeartbeats 2000000 in
theorem exact_nc (pa ca : Option Addr) (pn pc cn cc : Nat) (sig : ByteArray) (h e val : Int) (P C : List Int) (w : World)
    (hh : h < 9223372036854775808) (hsig : sig.size ≤ 1024) (hpn : P.length = pn) (hcn : C.length = cn) (hp : pn ≤ 1024) (hc : cn ≤ 1024)
    (hP : Row w (.slice pa pn pc) P) (hC : Row w (.slice ca cn cc) C) (hs0 : sig.size = 0) (hc0 : 0 < cn) :
    Calls Yba.prog 3 #[.slice pa pn pc, .string sig, .int .i64 h, .int .i64 e, .int .i64 val, .slice ca cn cc] w fun r w' => r = .returned (.bool true) ∧ Below w.heap.size w w' := by
  have hSP := fun W hr hq => split_any pa ca pn pc cn cc sig h e val P C W hh hsig hpn hcn hp hc hr hq
  have hPU := fun W => cpush_any h hh W
  have hpl := push_le h
  have hpne := push_ne h
  have hCS := fun W => ccs_any (slen h e sig.size) (slen_bd h e sig.size).1 (slen_bd h e sig.size).2 W
  have HP : Hid (Row w (.slice pa pn pc) P) := hP
  have HC : Hid (Row w (.slice ca cn cc) C) := hC
  have HPN : Hid (P.length = pn) := hpn
  have HCN : Hid (C.length = cn) := hcn
  obtain ⟨U, hU⟩ : ∃ U, U = val % 18446744073709551616 := ⟨_, rfl⟩
  have HU : Hid (U = val % 18446744073709551616) := hU
  have hUw : IntKind.u64.wrap val = U := by rw [IntKind.wrap_u64, hU]
  have hLU := fun B b l W ho hB hl => le_eight B U (by omega) (by omega) b l W ho hB hl
  obtain ⟨N1, hN1⟩ : ∃ N, (one h e sig).length = N := ⟨_, rfl⟩
  obtain ⟨N2, hN2⟩ : ∃ N, (two val P C).length = N := ⟨_, rfl⟩
  have HN1 : Hid ((one h e sig).length = N1) := hN1
  have HN2 : Hid ((two val P C).length = N2) := hN2
  have p1 : 0 < N1 := by rw [← hN1]; exact one_pos h e sig
  have p2 : 0 < N2 := by rw [← hN2]; exact two_pos val P C
  have hse : sig.toList.isEmpty = true := str_e sig hs0
  have hS := slen_n' h e
  have HS0 : Hid (sig.size = 0) := hs0
  rw [hs0] at hCS
  have cl := csz_le (slen h e 0)
  have cp := csz_le pn
  have cc' := csz_le cn
  have t1 : decide (1024 < (pn : Int)) = false := by simp; omega
  have t2 : decide (1024 < (sig.size : Int)) = false := by simp; omega
  have t3 : decide (1024 < (cn : Int)) = false := by simp; omega
  clear hh hP hC hpn hcn hU hN1 hN2 hs0
  go_enter Yba.func3, Yba.ntmps3
  go_wp2_with fail
  refine (hSP _ (HP.out.alloc _) (HC.out.alloc _)).mono ?_
  rintro r wS ⟨v1, v2, rfl, q1, q2, bS⟩
  obtain ⟨g1, c1, rfl, _, _⟩ := q1.shapeN N1 HN1.out p1
  obtain ⟨g2, c2, rfl, _, _⟩ := q2.shapeN N2 HN2.out p2
  have HQ1 : Hid (Own wS w.heap.size (.slice (some ⟨g1, 0, none⟩) N1 c1) (one h e sig)) := q1.base (by simp)
  have HQ2 : Hid (Own wS w.heap.size (.slice (some ⟨g2, 0, none⟩) N2 c2) (two val P C)) := q2.base (by simp)
  have HS : Hid (Below w.heap.size w wS) := ((Below.refl _ _).alloc (Nat.le_refl _) _).trans (bS.mono (by simp))
  clear hSP q1 q2 bS t1 t2 t3
  go_wp2_with fail
  refine (le_four wS.heap.size 1 (by omega) (by omega) (.slice none 0 0) [] wS (Own.nil _ _) (Nat.le_refl _) (by simp)).mono ?_
  rintro r u1 ⟨x1, rfl, o1, b1⟩
  obtain ⟨L1, H1⟩ := named ([] ++ le 4 1)
  rw [← H1.out] at o1
  have n1 : L1.length = 4 := len_app H1
  have k1 := b1.size
  go_wp2_with (first | (at_builtin; refine append_rowL rfl (.tmp 47) (.tmp 48) rfl wS.heap.size x1 _ L1 [1] rfl rfl (o1.alloc _) (row_one u1 _) (by simp; omega) (by simp; omega) ?_; intro x2 u2 L2 H2 o2 _ b2; have n2 : L2.length = 5 := (len_app H2).trans (by rw [n1]; rfl); have b2' := (b1.alloc k1 _).trans b2) | (at_builtin; refine append_zerosL rfl (.tmp 50) (.const (.int .i64 32)) rfl wS.heap.size x2 L2 rfl rfl o2 (ne_app H2 (by simp)) (by omega) b2'.size ?_; intro x3 u3 L3 H3 o3 b3; have n3 : L3.length = 37 := (len_app H3).trans (by rw [n2]; rfl); have b3' := b2'.trans b3))
  clear n1 n2 k1 o1 b1 o2 b2 b3
  refine (le_four wS.heap.size 4294967295 (by omega) (by omega) x3 L3 u3 o3 b3'.size (by omega)).mono ?_
  rintro r u4 ⟨x4, rfl, o4, b4⟩
  obtain ⟨L4, H4⟩ := named (L3 ++ le 4 4294967295)
  rw [← H4.out] at o4
  have n4 : L4.length = 41 := (len_app H4).trans (by rw [n3]; rfl)
  have b4' := b3'.trans b4
  clear n3 o3 b3' b4 b2'
  go_wp2_with fail
  refine (hPU u4).mono ?_
  rintro r u5 ⟨vh, rfl, oh, bh⟩
  have hap := Own.apart o4 oh
  obtain ⟨gh, ch, rfl, _, hch⟩ := oh.shape hpne
  have o4' := o4.later bh
  have b5' := b4'.trans (bh.mono b4'.size)
  have HAP : Hid (∀ k, (Value.slice (some ⟨gh, 0, none⟩) (push h).length ch).ownBlock = some k → some k ≠ x4.ownBlock) := hap
  clear hPU hap o4 bh b4'
  go_wp2_with fail
  refine (hCS u5).mono ?_
  rintro r u6 ⟨x6, rfl, oc, bc⟩
  have o4'' := o4'.later bc
  have oh' := oh.later bc
  have b6' := b5'.trans (bc.mono b5'.size)
  have k6 := b6'.size
  clear hCS bc b5' o4' oh hS
  go_wp2_with (first | (at_builtin; refine append_rowL rfl (.tmp 68) (.tmp 71) rfl wS.heap.size x4 x6 L4 (csz (slen h e 0)) rfl rfl o4'' oc.row (by omega) k6 ?_; intro x7 u7 L7 H7 o7 g7 b7; have b7' := b6'.trans b7; have oh7 := oh'.grown g7 HAP.out; have n7 : L7.length ≤ 50 := (by rw [len_app H7]; omega)) | (at_builtin; refine append_rowL rfl (.tmp 73) (.tmp 74) rfl wS.heap.size x7 _ L7 (push h) rfl rfl o7 oh7.row (by omega) b7'.size ?_; intro x8 u8 L8 H8 o8 _ b8; have b8' := b7'.trans b8; have k8 := b8'.size; have n8 : L8.length ≤ 60 := (by rw [len_app H8]; omega)) | (at_builtin; refine append_rowL rfl (.tmp 87) (.tmp 91) rfl wS.heap.size x8 _ L8 [wrap64 (4 + e) % 256] rfl rfl (o8.alloc _) (row_one u8 _) (by simp; omega) (by simp; omega) ?_; intro x11 u11 L11 H11 o11 _ b11; have b11' := (b8'.alloc k8 _).trans b11) | (at_builtin; refine append_rowL rfl (.tmp 97) (.tmp 100) rfl u11.heap.size _ _ [255, 255, 255, 255] [2] rfl rfl ((own_four u11).alloc _) (row_next u11 _ _) (by simp) (by simp; omega) ?_; intro x12 u12 L12 H12 o12 _ b12; have n12 : L12.length = 5 := (len_app H12).trans rfl; have b12' := (((Below.refl u11.heap.size u11).alloc (Nat.le_refl _) _).alloc (by simp) _).trans b12))
  have HONE : Hid (L11 = one h e sig) := by
    unfold Hid
    rw [H11.out, wrap_mod, H8.out, H7.out, H4.out, H3.out, H2.out, H1.out, one, sigs, HS0.out, if_pos rfl]
    simp only [List.nil_append, List.append_assoc, List.append_nil]
  rw [HONE.out] at o11
  obtain ⟨g3, c3, rfl, _, _⟩ := o11.shapeN N1 HN1.out p1
  have HO : Hid (Own u11 wS.heap.size (.slice (some ⟨g3, 0, none⟩) N1 c3) (one h e sig)) := o11
  have HB11 : Hid (Below wS.heap.size wS u11) := b11'
  clear n4 o4'' oc b6' k6 n7 o7 g7 b7 b7' oh' oh7 n8 k8 o8 b8 b8' b11 o11 b11' cl b12
  refine (hLU u11.heap.size x12 L12 u12 o12 b12'.size (by omega)).mono ?_
  rintro r u13 ⟨x13, rfl, o13, b13⟩
  obtain ⟨L13, H13⟩ := named (L12 ++ le 8 U)
  rw [← H13.out] at o13
  have n13 : L13.length = 13 := (len_app H13).trans (by rw [n12, le_length])
  have b13' := b12'.trans b13
  clear n12 o12 b12' b13 hLU
  go_wp2_with fail
  refine (ccs_any pn (by omega) (by omega) u13).mono ?_
  rintro r u14 ⟨x14, rfl, od, bd⟩
  have o13' := o13.later bd
  have b14' := b13'.trans (bd.mono b13'.size)
  have k14 := b14'.size
  have HRP : Hid (∀ u', Below u11.heap.size u11 u' → Row u' (.slice pa pn pc) P) := fun u' hb => HP.out.later (HS.out.trans ((HB11.out.trans (hb.mono HB11.out.size)).mono HS.out.size))
  clear o13 b13' bd
  go_wp2_with (first | (at_builtin; refine append_rowL rfl (.tmp 106) (.tmp 110) rfl u11.heap.size x13 x14 L13 (csz pn) rfl rfl o13' od.row (by omega) k14 ?_; intro x15 u15 L15 H15 o15 _ b15; have b15' := b14'.trans b15; have n15 : L15.length ≤ 22 := (by rw [len_app H15]; omega); have hrp := HRP.out u15 b15') | (at_builtin; refine append_rowL rfl (.tmp 112) (.tmp 113) rfl u11.heap.size x15 _ L15 P rfl rfl o15 hrp (by rw [HPN.out]; omega) b15'.size ?_; intro x16 u16 L16 H16 o16 _ b16; have b16' := b15'.trans b16; have n16 : L16.length ≤ 1046 := (by rw [len_app H16, HPN.out]; omega)))
  clear n13 o13' od b14' k14 n15 o15 b15 b15' hrp b16 HRP
  refine (le_eight u11.heap.size 0 (by omega) (by omega) x16 L16 u16 o16 b16'.size (by omega)).mono ?_
  rintro r u17 ⟨x17, rfl, o17, b17⟩
  obtain ⟨L17, H17⟩ := named (L16 ++ le 8 0)
  rw [← H17.out] at o17
  have n17 : L17.length ≤ 1054 := by rw [len_app H17, le_length]; omega
  have b17' := b16'.trans b17
  clear n16 o16 b16' b17
  go_wp2_with fail
  refine (ccs_any cn (by omega) (by omega) u17).mono ?_
  rintro r u18 ⟨x18, rfl, oe, be⟩
  have o17' := o17.later be
  have b18' := b17'.trans (be.mono b17'.size)
  have k18 := b18'.size
  have HRC : Hid (∀ u', Below u11.heap.size u11 u' → Row u' (.slice ca cn cc) C) := fun u' hb => HC.out.later (HS.out.trans ((HB11.out.trans (hb.mono HB11.out.size)).mono HS.out.size))
  clear o17 b17' be
  go_wp2_with (first | (at_builtin; refine append_rowL rfl (.tmp 120) (.tmp 124) rfl u11.heap.size x17 x18 L17 (csz cn) rfl rfl o17' oe.row (by omega) k18 ?_; intro x19 u19 L19 H19 o19 _ b19; have b19' := b18'.trans b19; have n19 : L19.length ≤ 1070 := (by rw [len_app H19]; omega); have hrc := HRC.out u19 b19') | (at_builtin; refine append_rowL rfl (.tmp 126) (.tmp 127) rfl u11.heap.size x19 _ L19 C rfl rfl o19 hrc (by rw [HCN.out]; omega) b19'.size ?_; intro x20 u20 L20 H20 o20 _ b20; have b20' := b19'.trans b20; have n20 : L20.length ≤ 2100 := (by rw [len_app H20, HCN.out]; omega)))
  clear n17 o17' oe b18' k18 n19 o19 b19 b19' hrc b20 HRC
  refine (le_four u11.heap.size 0 (by omega) (by omega) x20 L20 u20 o20 b20'.size (by omega)).mono ?_
  rintro r u21 ⟨x21, rfl, o21, b21⟩
  have HTWO : Hid (L20 ++ le 4 0 = two val P C) := by
    unfold Hid
    rw [H20.out, H19.out, H17.out, H16.out, H15.out, H13.out, H12.out, HU.out, two, HCN.out, HPN.out, if_neg (by omega), if_neg (by omega), ← le_max]
    simp only [List.append_assoc]
  rw [HTWO.out] at o21
  obtain ⟨g4, c4, rfl, _, _⟩ := o21.shapeN N2 HN2.out p2
  have HB21 : Hid (Below u11.heap.size u11 u21) := b20'.trans b21
  have hbS := HB11.out.trans (HB21.out.mono HB11.out.size)
  have hE1 := equal_true u21 g1 c1 g3 c3 N1 (one h e sig) HN1.out (HQ1.out.later hbS) (HO.out.later HB21.out)
  have hE2 := equal_true u21 g2 c2 g4 c4 N2 (two val P C) HN2.out (HQ2.out.later hbS) o21
  have HF : Hid (Below w.heap.size w u21) := HS.out.trans (hbS.mono HS.out.size)
  clear o20 b20' b21 o21 hbS
  go_wp2_with (first | (go_at_call_of 9 (Value.slice (some ⟨g1, 0, none⟩) N1 c1); refine hE1.mono ?_; rintro r w' ⟨rfl, rfl⟩) | (go_at_call_of 9 (Value.slice (some ⟨g2, 0, none⟩) N2 c2); refine hE2.mono ?_; rintro r w' ⟨rfl, rfl⟩))
  go_ret
  exact ⟨rfl, HF.out⟩

set_option maxHeartbeats 2000000 in
theorem exact_nn (pa ca : Option Addr) (pn pc cn cc : Nat) (sig : ByteArray) (h e val : Int) (P C : List Int) (w : World)
    (hh : h < 9223372036854775808) (hsig : sig.size ≤ 1024) (hpn : P.length = pn) (hcn : C.length = cn) (hp : pn ≤ 1024) (hc : cn ≤ 1024)
    (hP : Row w (.slice pa pn pc) P) (hC : Row w (.slice ca cn cc) C) (hs0 : sig.size = 0) (hc0 : cn = 0) :
    Calls Yba.prog 3 #[.slice pa pn pc, .string sig, .int .i64 h, .int .i64 e, .int .i64 val, .slice ca cn cc] w fun r w' => r = .returned (.bool true) ∧ Below w.heap.size w w' := by
  have hSP := fun W hr hq => split_any pa ca pn pc cn cc sig h e val P C W hh hsig hpn hcn hp hc hr hq
  have hPU := fun W => cpush_any h hh W
  have hpl := push_le h
  have hpne := push_ne h
  have hCS := fun W => ccs_any (slen h e sig.size) (slen_bd h e sig.size).1 (slen_bd h e sig.size).2 W
  have HP : Hid (Row w (.slice pa pn pc) P) := hP
  have HC : Hid (Row w (.slice ca cn cc) C) := hC
  have HPN : Hid (P.length = pn) := hpn
  have HCN : Hid (C.length = cn) := hcn
  obtain ⟨U, hU⟩ : ∃ U, U = val % 18446744073709551616 := ⟨_, rfl⟩
  have HU : Hid (U = val % 18446744073709551616) := hU
  have hUw : IntKind.u64.wrap val = U := by rw [IntKind.wrap_u64, hU]
  have hLU := fun B b l W ho hB hl => le_eight B U (by omega) (by omega) b l W ho hB hl
  obtain ⟨N1, hN1⟩ : ∃ N, (one h e sig).length = N := ⟨_, rfl⟩
  obtain ⟨N2, hN2⟩ : ∃ N, (two val P C).length = N := ⟨_, rfl⟩
  have HN1 : Hid ((one h e sig).length = N1) := hN1
  have HN2 : Hid ((two val P C).length = N2) := hN2
  have p1 : 0 < N1 := by rw [← hN1]; exact one_pos h e sig
  have p2 : 0 < N2 := by rw [← hN2]; exact two_pos val P C
  have hse : sig.toList.isEmpty = true := str_e sig hs0
  have hS := slen_n' h e
  have HS0 : Hid (sig.size = 0) := hs0
  rw [hs0] at hCS
  subst hc0
  have cl := csz_le (slen h e 0)
  have cp := csz_le pn
  have t1 : decide (1024 < (pn : Int)) = false := by simp; omega
  have t2 : decide (1024 < (sig.size : Int)) = false := by simp; omega
  clear hc
  clear hh hP hC hpn hcn hU hN1 hN2 hs0
  go_enter Yba.func3, Yba.ntmps3
  go_wp2_with fail
  refine (hSP _ (HP.out.alloc _) (HC.out.alloc _)).mono ?_
  rintro r wS ⟨v1, v2, rfl, q1, q2, bS⟩
  obtain ⟨g1, c1, rfl, _, _⟩ := q1.shapeN N1 HN1.out p1
  obtain ⟨g2, c2, rfl, _, _⟩ := q2.shapeN N2 HN2.out p2
  have HQ1 : Hid (Own wS w.heap.size (.slice (some ⟨g1, 0, none⟩) N1 c1) (one h e sig)) := q1.base (by simp)
  have HQ2 : Hid (Own wS w.heap.size (.slice (some ⟨g2, 0, none⟩) N2 c2) (two val P C)) := q2.base (by simp)
  have HS : Hid (Below w.heap.size w wS) := ((Below.refl _ _).alloc (Nat.le_refl _) _).trans (bS.mono (by simp))
  clear hSP q1 q2 bS t1 t2
  go_wp2_with fail
  refine (le_four wS.heap.size 1 (by omega) (by omega) (.slice none 0 0) [] wS (Own.nil _ _) (Nat.le_refl _) (by simp)).mono ?_
  rintro r u1 ⟨x1, rfl, o1, b1⟩
  obtain ⟨L1, H1⟩ := named ([] ++ le 4 1)
  rw [← H1.out] at o1
  have n1 : L1.length = 4 := len_app H1
  have k1 := b1.size
  go_wp2_with (first | (at_builtin; refine append_rowL rfl (.tmp 47) (.tmp 48) rfl wS.heap.size x1 _ L1 [1] rfl rfl (o1.alloc _) (row_one u1 _) (by simp; omega) (by simp; omega) ?_; intro x2 u2 L2 H2 o2 _ b2; have n2 : L2.length = 5 := (len_app H2).trans (by rw [n1]; rfl); have b2' := (b1.alloc k1 _).trans b2) | (at_builtin; refine append_zerosL rfl (.tmp 50) (.const (.int .i64 32)) rfl wS.heap.size x2 L2 rfl rfl o2 (ne_app H2 (by simp)) (by omega) b2'.size ?_; intro x3 u3 L3 H3 o3 b3; have n3 : L3.length = 37 := (len_app H3).trans (by rw [n2]; rfl); have b3' := b2'.trans b3))
  clear n1 n2 k1 o1 b1 o2 b2 b3
  refine (le_four wS.heap.size 4294967295 (by omega) (by omega) x3 L3 u3 o3 b3'.size (by omega)).mono ?_
  rintro r u4 ⟨x4, rfl, o4, b4⟩
  obtain ⟨L4, H4⟩ := named (L3 ++ le 4 4294967295)
  rw [← H4.out] at o4
  have n4 : L4.length = 41 := (len_app H4).trans (by rw [n3]; rfl)
  have b4' := b3'.trans b4
  clear n3 o3 b3' b4 b2'
  go_wp2_with fail
  refine (hPU u4).mono ?_
  rintro r u5 ⟨vh, rfl, oh, bh⟩
  have hap := Own.apart o4 oh
  obtain ⟨gh, ch, rfl, _, hch⟩ := oh.shape hpne
  have o4' := o4.later bh
  have b5' := b4'.trans (bh.mono b4'.size)
  have HAP : Hid (∀ k, (Value.slice (some ⟨gh, 0, none⟩) (push h).length ch).ownBlock = some k → some k ≠ x4.ownBlock) := hap
  clear hPU hap o4 bh b4'
  go_wp2_with fail
  refine (hCS u5).mono ?_
  rintro r u6 ⟨x6, rfl, oc, bc⟩
  have o4'' := o4'.later bc
  have oh' := oh.later bc
  have b6' := b5'.trans (bc.mono b5'.size)
  have k6 := b6'.size
  clear hCS bc b5' o4' oh hS
  go_wp2_with (first | (at_builtin; refine append_rowL rfl (.tmp 68) (.tmp 71) rfl wS.heap.size x4 x6 L4 (csz (slen h e 0)) rfl rfl o4'' oc.row (by omega) k6 ?_; intro x7 u7 L7 H7 o7 g7 b7; have b7' := b6'.trans b7; have oh7 := oh'.grown g7 HAP.out; have n7 : L7.length ≤ 50 := (by rw [len_app H7]; omega)) | (at_builtin; refine append_rowL rfl (.tmp 73) (.tmp 74) rfl wS.heap.size x7 _ L7 (push h) rfl rfl o7 oh7.row (by omega) b7'.size ?_; intro x8 u8 L8 H8 o8 _ b8; have b8' := b7'.trans b8; have k8 := b8'.size; have n8 : L8.length ≤ 60 := (by rw [len_app H8]; omega)) | (at_builtin; refine append_rowL rfl (.tmp 87) (.tmp 91) rfl wS.heap.size x8 _ L8 [wrap64 (4 + e) % 256] rfl rfl (o8.alloc _) (row_one u8 _) (by simp; omega) (by simp; omega) ?_; intro x11 u11 L11 H11 o11 _ b11; have b11' := (b8'.alloc k8 _).trans b11) | (at_builtin; refine append_rowL rfl (.tmp 97) (.tmp 100) rfl u11.heap.size _ _ [255, 255, 255, 255] [1] rfl rfl ((own_four u11).alloc _) (row_next u11 _ _) (by simp) (by simp; omega) ?_; intro x12 u12 L12 H12 o12 _ b12; have n12 : L12.length = 5 := (len_app H12).trans rfl; have b12' := (((Below.refl u11.heap.size u11).alloc (Nat.le_refl _) _).alloc (by simp) _).trans b12))
  have HONE : Hid (L11 = one h e sig) := by
    unfold Hid
    rw [H11.out, wrap_mod, H8.out, H7.out, H4.out, H3.out, H2.out, H1.out, one, sigs, HS0.out, if_pos rfl]
    simp only [List.nil_append, List.append_assoc, List.append_nil]
  rw [HONE.out] at o11
  obtain ⟨g3, c3, rfl, _, _⟩ := o11.shapeN N1 HN1.out p1
  have HO : Hid (Own u11 wS.heap.size (.slice (some ⟨g3, 0, none⟩) N1 c3) (one h e sig)) := o11
  have HB11 : Hid (Below wS.heap.size wS u11) := b11'
  clear n4 o4'' oc b6' k6 n7 o7 g7 b7 b7' oh' oh7 n8 k8 o8 b8 b8' b11 o11 b11' cl b12
  refine (hLU u11.heap.size x12 L12 u12 o12 b12'.size (by omega)).mono ?_
  rintro r u13 ⟨x13, rfl, o13, b13⟩
  obtain ⟨L13, H13⟩ := named (L12 ++ le 8 U)
  rw [← H13.out] at o13
  have n13 : L13.length = 13 := (len_app H13).trans (by rw [n12, le_length])
  have b13' := b12'.trans b13
  clear n12 o12 b12' b13 hLU
  go_wp2_with fail
  refine (ccs_any pn (by omega) (by omega) u13).mono ?_
  rintro r u14 ⟨x14, rfl, od, bd⟩
  have o13' := o13.later bd
  have b14' := b13'.trans (bd.mono b13'.size)
  have k14 := b14'.size
  have HRP : Hid (∀ u', Below u11.heap.size u11 u' → Row u' (.slice pa pn pc) P) := fun u' hb => HP.out.later (HS.out.trans ((HB11.out.trans (hb.mono HB11.out.size)).mono HS.out.size))
  clear o13 b13' bd
  go_wp2_with (first | (at_builtin; refine append_rowL rfl (.tmp 106) (.tmp 110) rfl u11.heap.size x13 x14 L13 (csz pn) rfl rfl o13' od.row (by omega) k14 ?_; intro x15 u15 L15 H15 o15 _ b15; have b15' := b14'.trans b15; have n15 : L15.length ≤ 22 := (by rw [len_app H15]; omega); have hrp := HRP.out u15 b15') | (at_builtin; refine append_rowL rfl (.tmp 112) (.tmp 113) rfl u11.heap.size x15 _ L15 P rfl rfl o15 hrp (by rw [HPN.out]; omega) b15'.size ?_; intro x16 u16 L16 H16 o16 _ b16; have b16' := b15'.trans b16; have n16 : L16.length ≤ 1046 := (by rw [len_app H16, HPN.out]; omega)))
  clear n13 o13' od b14' k14 n15 o15 b15 b15' hrp b16 HRP
  refine (le_four u11.heap.size 0 (by omega) (by omega) x16 L16 u16 o16 b16'.size (by omega)).mono ?_
  rintro r u21 ⟨x21, rfl, o21, b21⟩
  have HTWO : Hid (L16 ++ le 4 0 = two val P C) := by
    unfold Hid
    rw [H16.out, H15.out, H13.out, H12.out, HU.out, two, HCN.out, HPN.out, if_pos rfl, if_pos rfl, ← le_max]
    simp only [List.nil_append, List.append_assoc]
  rw [HTWO.out] at o21
  obtain ⟨g4, c4, rfl, _, _⟩ := o21.shapeN N2 HN2.out p2
  have HB21 : Hid (Below u11.heap.size u11 u21) := b16'.trans b21
  have hbS := HB11.out.trans (HB21.out.mono HB11.out.size)
  have hE1 := equal_true u21 g1 c1 g3 c3 N1 (one h e sig) HN1.out (HQ1.out.later hbS) (HO.out.later HB21.out)
  have hE2 := equal_true u21 g2 c2 g4 c4 N2 (two val P C) HN2.out (HQ2.out.later hbS) o21
  have HF : Hid (Below w.heap.size w u21) := HS.out.trans (hbS.mono HS.out.size)
  clear o16 b16' b21 o21 hbS
  go_wp2_with (first | (go_at_call_of 9 (Value.slice (some ⟨g1, 0, none⟩) N1 c1); refine hE1.mono ?_; rintro r w' ⟨rfl, rfl⟩) | (go_at_call_of 9 (Value.slice (some ⟨g2, 0, none⟩) N2 c2); refine hE2.mono ?_; rintro r w' ⟨rfl, rfl⟩))
  go_ret
  exact ⟨rfl, HF.out⟩
end Go.Proofs.Ybulkaqeu
