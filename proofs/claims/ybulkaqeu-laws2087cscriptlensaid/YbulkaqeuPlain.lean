/-
  Seat b2087a: the plain functions: rows of bytes as lists of numbers. No Go in sight.
-/
import Derived.Lib.Endian
import Derived.Shelf.Bin.LEAppendUint32
namespace Go.Proofs.Ybulkaqeu

/-- v's k least bytes, the least first. -/
def le : Nat → Int → List Int
  | 0, _ => []
  | k + 1, v => v % 256 :: le k (v / 256)

theorem le_length : ∀ (k : Nat) (v : Int), (le k v).length = k
  | 0, _ => rfl
  | k + 1, v => by simp [le, le_length k]

theorem le_snoc : ∀ (k : Nat) (v : Int), le (k + 1) v = le k v ++ [v / 256 ^ k % 256]
  | 0, v => by simp [le]
  | k + 1, v => by
    have h := le_snoc k (v / 256)
    rw [le, h, le, List.cons_append, Int.ediv_ediv_of_nonneg (by omega), ← Int.pow_succ']

/-- A row of numbers, as cells. -/
def cells (l : List Int) : List Value := l.map (Value.int .u8)

theorem cells_length (l : List Int) : (cells l).length = l.length := by simp [cells]
theorem cells_append (l m : List Int) : cells (l ++ m) = cells l ++ cells m := by simp [cells]
theorem cells_at (l : List Int) (j : Nat) : (cells l)[j]? = l[j]?.map (Value.int .u8) := by simp [cells]
theorem cells_one (l : List Int) : ∀ v ∈ cells l, v.oneCell' = true := by
  intro v hv
  simp only [cells, List.mem_map] at hv
  obtain ⟨a, _, rfl⟩ := hv
  rfl

theorem le_cells : ∀ (k v : Nat), Lib.byteCells (Lib.leBytes k v) = cells (le k (v : Int))
  | 0, _ => rfl
  | k + 1, v => by
    have h := le_cells k (v / 256)
    simp only [Lib.byteCells, cells] at h ⊢
    rw [Lib.leBytes, List.map_cons, h, le, List.map_cons, Lib.toUInt8_mod]
    congr 1

/-- A string's bytes as numbers. -/
def nums (s : ByteArray) : List Int := s.data.toList.map fun b => (b.toNat : Int)
theorem nums_length (s : ByteArray) : (nums s).length = s.size := by
  rw [nums, List.length_map, Array.length_toList]
  rfl

/-- The base-256 digits of v, the least first: at most f of them. -/
def digs : Nat → Int → List Int
  | 0, _ => []
  | f + 1, v => if 0 < v then v % 256 :: digs f (v / 256) else []

theorem digs_le : ∀ (f : Nat) (v : Int), (digs f v).length ≤ f
  | 0, _ => Nat.le_refl _
  | f + 1, v => by
    unfold digs
    split
    · have := digs_le f (v / 256)
      simp; omega
    · simp

theorem digs_zero : ∀ (f : Nat) (v : Int), v ≤ 0 → digs f v = []
  | 0, _, _ => rfl
  | f + 1, v, h => by unfold digs; rw [if_neg (by omega)]

theorem digs_pos (f : Nat) (v : Int) (h : 0 < v) : digs (f + 1) v = v % 256 :: digs f (v / 256) := by
  rw [digs, if_pos h]

theorem digs_ne (f : Nat) (v : Int) (h : 0 < v) : digs (f + 1) v ≠ [] := by
  rw [digs_pos f v h]; simp

theorem digs_range : ∀ (f : Nat) (v : Int), ∀ z ∈ digs f v, 0 ≤ z ∧ z ≤ 255
  | 0, _, z, h => by simp [digs] at h
  | f + 1, v, z, h => by
    unfold digs at h
    split at h
    · rcases List.mem_cons.1 h with rfl | h
      · omega
      · exact digs_range f _ z h
    · simp at h

/-- One round of the loops that take digits off: 'done' so far, x left, f digits more at most. -/
def Dig (h : Int) (f : Nat) (done : List Int) (x : Int) : Prop := done ++ digs f x = digs 8 h ∧ done.length + f = 8 ∧ 0 ≤ x ∧ x < 256 ^ f

theorem Dig.start (h : Int) (h0 : 0 ≤ h) (h1 : h < 9223372036854775808) : Dig h 8 [] h := ⟨rfl, rfl, h0, by omega⟩

theorem Dig.step {h : Int} {f : Nat} {done : List Int} {x : Int} (d : Dig h f done x) (hx : 0 < x) : ∃ f', f = f' + 1 ∧ Dig h f' (done ++ [x % 256]) (x / 256) := by
  obtain ⟨d1, d2, d3, d4⟩ := d
  match f, d4 with
  | 0, d4 => simp at d4; omega
  | f' + 1, d4 =>
    refine ⟨f', rfl, ?_, ?_, by omega, ?_⟩
    · rw [← d1, digs_pos f' x hx]; simp
    · simp; omega
    · rw [Int.pow_succ] at d4; omega

theorem Dig.stop {h : Int} {f : Nat} {done : List Int} {x : Int} (d : Dig h f done x) (hx : ¬ 0 < x) : done = digs 8 h := by
  have := d.1
  rw [digs_zero f x (by omega)] at this
  simpa using this

theorem Dig.len {h : Int} {f : Nat} {done : List Int} {x : Int} (d : Dig h f done x) : done.length ≤ 8 := by have := d.2.1; omega

/-- The digits, with a nought behind them where the last has its top bit set. -/
def pad (l : List Int) : List Int := if 128 ≤ l.getLastD 0 then l ++ [0] else l
theorem pad_le (l : List Int) : (pad l).length ≤ l.length + 1 := by unfold pad; split <;> simp

/-- The script that pushes h. -/
def push (h : Int) : List Int := if h ≤ 16 then [(80 + h) % 256] else ((pad (digs 8 h)).length : Int) :: pad (digs 8 h)

theorem push_le (h : Int) : (push h).length ≤ 10 := by
  unfold push
  split
  · simp
  · have h1 := pad_le (digs 8 h)
    have h2 := digs_le 8 h
    simp; omega

theorem push_ne (h : Int) : push h ≠ [] := by
  unfold push; split <;> simp

/-- A compact size. -/
def csz (n : Int) : List Int := if n < 253 then [n] else if n ≤ 65535 then 253 :: le 2 n else if n ≤ 4294967295 then 254 :: le 4 n else 255 :: le 8 n

theorem csz_le (n : Int) : (csz n).length ≤ 9 := by
  unfold csz
  split
  · simp
  · split
    · simp [le_length]
    · split <;> simp [le_length]

theorem csz_ne (n : Int) : csz n ≠ [] := by
  unfold csz
  split
  · simp
  · split
    · simp
    · split <;> simp


/-- The script's length, as a uint64; n: the signature's length. -/
def slen (h e : Int) (n : Nat) : Int := ((push h).length + 5 + e + (if n = 0 then 0 else 1 + (n : Int))) % 18446744073709551616
theorem slen_bd (h e : Int) (n : Nat) : 0 ≤ slen h e n ∧ slen h e n < 18446744073709551616 := by unfold slen; omega

/-- The signature's push. -/
def sigs (s : ByteArray) : List Int := if s.size = 0 then [] else [(s.size : Int) % 256] ++ nums s
/-- Thirty-two noughts. -/
def zeros32 : List Int := List.replicate 32 0
/-- The bytes ahead of the extranonces. -/
def one (h e : Int) (s : ByteArray) : List Int := le 4 1 ++ [1] ++ zeros32 ++ le 4 4294967295 ++ csz (slen h e s.size) ++ push h ++ sigs s ++ [(4 + e) % 256]
/-- The bytes behind them. -/
def two (val : Int) (P C : List Int) : List Int :=
  le 4 4294967295 ++ [if C.length = 0 then 1 else 2] ++ le 8 (val % 18446744073709551616) ++ csz P.length ++ P ++ (if C.length = 0 then [] else le 8 0 ++ csz C.length ++ C) ++ le 4 0
end Go.Proofs.Ybulkaqeu
