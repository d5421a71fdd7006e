/-
  Seat b2071a: THE CONTRACT of appendHeader (5): onto a slice that the call owns.
-/
import Derived.Test.YbulkapweRows
import Derived.Test.YbulkapweShelf
import Derived.WalkKit
import Derived.WalkSpells
import Derived.Below
import Derived.Lib.AppendStr
import Derived.Lib.EndianBits
namespace Go.Proofs.Ybulkapwe
open Go.RowKit

theorem info5 : (Yba.prog.info? 5).map (fun i => (i.zero, i.size, i.bytes)) = some (some (.int .u8 0), 1, 1) := by kernel_rfl

/-- The six bytes of a header. -/
def head (kind n : Int) : List Value := [.int .u8 109, .int .u8 114, .int .u8 3, .int .u8 kind, .int .u8 (n / 256 % 256), .int .u8 (n % 256)]

theorem head_eq (kind n : Int) (u : Nat) (hu : n % 65536 = (u : Int)) (s : List Value) :
    s ++ [.int .u8 109, .int .u8 114, .int .u8 3, .int .u8 kind] ++ Lib.byteCells (Lib.beBytes 2 u) = s ++ head kind n := by
  have e0 : ((u % 256 : Nat) : Int) = n % 256 := by omega
  have e1 : ((u / 256 % 256 : Nat) : Int) = n / 256 % 256 := by omega
  have hb : Lib.byteCells (Lib.beBytes 2 u) = [Value.int .u8 (n / 256 % 256), Value.int .u8 (n % 256)] := by
    simp only [Lib.byteCells, Lib.beBytes, Lib.leBytes, List.reverse_cons, List.reverse_nil, List.nil_append, List.cons_append, List.map, Lib.toUInt8_mod, e0, e1]
  rw [hb]
  simp [head]

set_option maxHeartbeats 400000 in
theorem header_any (B n : Nat) (kind k : Int) (v : Value) (xs : List Value) (w : World) (hown : w.ownsRow B 5 1 v n xs) (hB : B ≤ w.heap.size) (hn : n ≤ 1024) :
    Calls Yba.prog 5 #[v, .int .u8 kind, .int .i64 k] w fun e w' => ∃ v', e = .returned v' ∧ w'.ownsRow B 5 1 v' (n + 6) (xs ++ head kind k) ∧ Below B w w' := by
  obtain ⟨i0, hi, hz0, hz1, hz2⟩ := info_parts info5
  obtain ⟨u, hu⟩ : ∃ u : Nat, k % 65536 = (u : Int) := ⟨(k % 65536).toNat, by omega⟩
  have HU : Hid (k % 65536 = (u : Int)) := hu
  have hw16 : IntKind.u16.wrap k = (u : Int) := by rw [IntKind.wrap_u16]; exact hu
  have hu2 : u < 65536 := by omega
  clear hu
  go_enter Yba.func5, Yba.ntmps5
  go_wp2_with (at_builtin; refine Lib.wpList_append_own_string _ rfl (.tmp 7) _ 22 9 rfl B 5 i0 Yba.underlying22 Yba.underlying9 hi hz0 hz1 hz2 v n xs rfl hown _ rfl ?c1 ?c2 ?c3 ?_)
  case c1 => show n + 2 ≤ maxLen; unfold maxLen; omega
  case c2 => show n + 2 ≤ _; omega
  case c3 => exact hB
  intro v1 w1 hown1 hg1 _
  have hb1 : Below B w w1 := (Below.refl _ _).grown hg1 hB (fun k hk => (hown.lt k hk).1)
  have hB1 : B ≤ w1.heap.size := Nat.le_trans hB hb1.size
  have e2 : xs ++ Lib.strCells { data := #[109, 114] } = xs ++ [.int .u8 109, .int .u8 114] := rfl
  rw [e2] at hown1
  clear e2 hown hg1
  go_wp2_with (at_builtin; refine wpList_append_own _ rfl (.tmp 9) (.tmp 11) 22 rfl B 5 i0 (.int .u8 0) 1 1 Yba.underlying22 hi hz0 hz1 hz2 rfl (by decide) v1 (n + 2) _ rfl (hown1.alloc _) ⟨w1.heap.size, 0, none⟩ 2 2 [.int .u8 3, .int .u8 kind] rfl rfl ?d1 ?d2 ?d3 ?d4 ?d5 ?_)
  case d1 =>
    intro j u hj
    match j, hj with
    | 0, hj => simp at hj; subst hj; simp [Addr.add]
    | 1, hj => simp at hj; subst hj; simp [Addr.add]
  case d2 => intro u hu; simp at hu; rcases hu with rfl | rfl <;> rfl
  case d3 => unfold maxLen; omega
  case d4 => omega
  case d5 => simp; omega
  intro v2 w2 hown2 hg2 _
  have hb2 : Below B w w2 := (hb1.alloc hB1 _).grown hg2 (by simp; omega) (fun k hk => (hown1.lt k hk).1)
  have hB2 : B ≤ w2.heap.size := Nat.le_trans hB hb2.size
  have hA := Yba.binary_BE_AppendUint16 B (n + 2 + 2) u hu2 v2 _ w2 hown2 hB2 (by omega)
  clear hown1 hg2 hb1 hB1 hown2
  go_wp2_with (go_at_call 7; refine hA.mono ?_; rintro e w3 ⟨v3, rfl, hown3, hb3⟩)
  go_ret
  exact ⟨v3, rfl, by rw [← head_eq kind k u HU.out xs]; exact hown3, hb2.trans hb3⟩

theorem header_shape (B n : Nat) (kind k : Int) (v : Value) (xs : List Value) (w : World) (hown : w.ownsRow B 5 1 v n xs) (hB : B ≤ w.heap.size) (hn : n ≤ 1024) :
    Calls Yba.prog 5 #[v, .int .u8 kind, .int .i64 k] w fun e w' => ∃ g cap, e = .returned (.slice (some ⟨g, 0, none⟩) (n + 6) cap) ∧ n + 6 ≤ cap ∧ cap ≤ 9223372036854775807 ∧
      (∀ j u, (xs ++ head kind k)[j]? = some u → w'.cell? ⟨g, j, none⟩ = some u) ∧ Below B w w' := by
  refine (header_any B n kind k v xs w hown hB hn).mono ?_
  rintro e w' ⟨v', rfl, hown', hb⟩
  rcases hown'.2 with ⟨_, h0⟩ | ⟨g, cap, cur, rfl, hbg, hh, hnc, hcm, hcs, htake⟩
  · omega
  · refine ⟨g, cap, rfl, hnc, by unfold maxLen at hcm; omega, fun j u hj => ?_, hb⟩
    have hlen : j < (xs ++ head kind k).length := (List.getElem?_eq_some_iff.1 hj).1
    rw [hown'.cellAt j (by rw [← hown'.1]; exact hlen), hj]
end Go.Proofs.Ybulkapwe
