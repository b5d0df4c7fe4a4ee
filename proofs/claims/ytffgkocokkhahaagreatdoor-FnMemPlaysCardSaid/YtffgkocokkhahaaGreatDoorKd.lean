/-
  The kinds of values by their names, and which values are valid. Plain data; nothing of Go's memory here.
-/
import Derived.Test.YtffgkocokkhahaaGreatDoorSv
namespace Go.Proofs.YtffgkocokkhahaaGreatDoor

/-- The kinds of values. -/
inductive Kd where
  | null | bool | int (k : IntKind) | f32 | f64 | str | blob | iInt | iRune | iUint | iFloat | other
  deriving DecidableEq

def Kd.lit : Kd → List UInt8
  | .null | .other => []
  | .bool => [98, 111, 111, 108]
  | .int .i8 => [105, 110, 116, 56]
  | .int .i16 => [105, 110, 116, 49, 54]
  | .int .i32 => [105, 110, 116, 51, 50]
  | .int .i64 => [105, 110, 116, 54, 52]
  | .int .u8 => [117, 105, 110, 116, 56]
  | .int .u16 => [117, 105, 110, 116, 49, 54]
  | .int .u32 => [117, 105, 110, 116, 51, 50]
  | .int .u64 => [117, 105, 110, 116, 54, 52]
  | .f32 => [102, 108, 111, 97, 116, 51, 50]
  | .f64 => [102, 108, 111, 97, 116, 54, 52]
  | .str => [115, 116, 114, 105, 110, 103]
  | .blob => [98, 108, 111, 98]
  | .iInt => [105, 100, 101, 97, 108, 73, 110, 116]
  | .iRune => [105, 100, 101, 97, 108, 82, 117, 110, 101]
  | .iUint => [105, 100, 101, 97, 108, 85, 105, 110, 116]
  | .iFloat => [105, 100, 101, 97, 108, 70, 108, 111, 97, 116]

/-- The kind of a name. -/
def Kd.of (l : List UInt8) : Kd :=
  if l == [98, 111, 111, 108] then .bool else
  if l == [105, 110, 116, 56] then .int .i8 else
  if l == [105, 110, 116, 49, 54] then .int .i16 else
  if l == [105, 110, 116, 51, 50] then .int .i32 else
  if l == [105, 110, 116, 54, 52] then .int .i64 else
  if l == [117, 105, 110, 116, 56] then .int .u8 else
  if l == [117, 105, 110, 116, 49, 54] then .int .u16 else
  if l == [117, 105, 110, 116, 51, 50] then .int .u32 else
  if l == [117, 105, 110, 116, 54, 52] then .int .u64 else
  if l == [102, 108, 111, 97, 116, 51, 50] then .f32 else
  if l == [102, 108, 111, 97, 116, 54, 52] then .f64 else
  if l == [115, 116, 114, 105, 110, 103] then .str else
  if l == [98, 108, 111, 98] then .blob else
  if l == [105, 100, 101, 97, 108, 73, 110, 116] then .iInt else
  if l == [105, 100, 101, 97, 108, 82, 117, 110, 101] then .iRune else
  if l == [105, 100, 101, 97, 108, 85, 105, 110, 116] then .iUint else
  if l == [105, 100, 101, 97, 108, 70, 108, 111, 97, 116] then .iFloat else
  if l.isEmpty then .null else .other

theorem Kd.of_lit (l : List UInt8) {kd : Kd} (h : Kd.of l = kd) (hk : kd ≠ .other) : l = kd.lit := by
  subst h
  unfold Kd.of at hk ⊢
  by_cases h : (l == [98, 111, 111, 108]) = true
  · rw [if_pos h]; exact eq_of_beq h
  rw [if_neg h] at hk ⊢
  clear h
  by_cases h : (l == [105, 110, 116, 56]) = true
  · rw [if_pos h]; exact eq_of_beq h
  rw [if_neg h] at hk ⊢
  clear h
  by_cases h : (l == [105, 110, 116, 49, 54]) = true
  · rw [if_pos h]; exact eq_of_beq h
  rw [if_neg h] at hk ⊢
  clear h
  by_cases h : (l == [105, 110, 116, 51, 50]) = true
  · rw [if_pos h]; exact eq_of_beq h
  rw [if_neg h] at hk ⊢
  clear h
  by_cases h : (l == [105, 110, 116, 54, 52]) = true
  · rw [if_pos h]; exact eq_of_beq h
  rw [if_neg h] at hk ⊢
  clear h
  by_cases h : (l == [117, 105, 110, 116, 56]) = true
  · rw [if_pos h]; exact eq_of_beq h
  rw [if_neg h] at hk ⊢
  clear h
  by_cases h : (l == [117, 105, 110, 116, 49, 54]) = true
  · rw [if_pos h]; exact eq_of_beq h
  rw [if_neg h] at hk ⊢
  clear h
  by_cases h : (l == [117, 105, 110, 116, 51, 50]) = true
  · rw [if_pos h]; exact eq_of_beq h
  rw [if_neg h] at hk ⊢
  clear h
  by_cases h : (l == [117, 105, 110, 116, 54, 52]) = true
  · rw [if_pos h]; exact eq_of_beq h
  rw [if_neg h] at hk ⊢
  clear h
  by_cases h : (l == [102, 108, 111, 97, 116, 51, 50]) = true
  · rw [if_pos h]; exact eq_of_beq h
  rw [if_neg h] at hk ⊢
  clear h
  by_cases h : (l == [102, 108, 111, 97, 116, 54, 52]) = true
  · rw [if_pos h]; exact eq_of_beq h
  rw [if_neg h] at hk ⊢
  clear h
  by_cases h : (l == [115, 116, 114, 105, 110, 103]) = true
  · rw [if_pos h]; exact eq_of_beq h
  rw [if_neg h] at hk ⊢
  clear h
  by_cases h : (l == [98, 108, 111, 98]) = true
  · rw [if_pos h]; exact eq_of_beq h
  rw [if_neg h] at hk ⊢
  clear h
  by_cases h : (l == [105, 100, 101, 97, 108, 73, 110, 116]) = true
  · rw [if_pos h]; exact eq_of_beq h
  rw [if_neg h] at hk ⊢
  clear h
  by_cases h : (l == [105, 100, 101, 97, 108, 82, 117, 110, 101]) = true
  · rw [if_pos h]; exact eq_of_beq h
  rw [if_neg h] at hk ⊢
  clear h
  by_cases h : (l == [105, 100, 101, 97, 108, 85, 105, 110, 116]) = true
  · rw [if_pos h]; exact eq_of_beq h
  rw [if_neg h] at hk ⊢
  clear h
  by_cases h : (l == [105, 100, 101, 97, 108, 70, 108, 111, 97, 116]) = true
  · rw [if_pos h]; exact eq_of_beq h
  rw [if_neg h] at hk ⊢
  clear h
  by_cases h : l.isEmpty = true
  · rw [if_pos h]; exact List.isEmpty_iff.1 h
  · rw [if_neg h] at hk; exact absurd rfl hk

theorem Kd.of_other (l : List UInt8) (h : Kd.of l = .other) : (l == [98, 111, 111, 108]) = false ∧ (l == [105, 110, 116, 56]) = false ∧ (l == [105, 110, 116, 49, 54]) = false ∧ (l == [105, 110, 116, 51, 50]) = false ∧ (l == [105, 110, 116, 54, 52]) = false ∧ (l == [117, 105, 110, 116, 56]) = false ∧ (l == [117, 105, 110, 116, 49, 54]) = false ∧ (l == [117, 105, 110, 116, 51, 50]) = false ∧ (l == [117, 105, 110, 116, 54, 52]) = false ∧ (l == [102, 108, 111, 97, 116, 51, 50]) = false ∧ (l == [102, 108, 111, 97, 116, 54, 52]) = false ∧ (l == [115, 116, 114, 105, 110, 103]) = false ∧ (l == [98, 108, 111, 98]) = false ∧ (l == [105, 100, 101, 97, 108, 73, 110, 116]) = false ∧ (l == [105, 100, 101, 97, 108, 82, 117, 110, 101]) = false ∧ (l == [105, 100, 101, 97, 108, 85, 105, 110, 116]) = false ∧ (l == [105, 100, 101, 97, 108, 70, 108, 111, 97, 116]) = false ∧ l.isEmpty = false := by
  unfold Kd.of at h
  by_cases h0 : (l == [98, 111, 111, 108]) = true
  · rw [if_pos h0] at h; cases h
  rw [if_neg h0] at h
  by_cases h1 : (l == [105, 110, 116, 56]) = true
  · rw [if_pos h1] at h; cases h
  rw [if_neg h1] at h
  by_cases h2 : (l == [105, 110, 116, 49, 54]) = true
  · rw [if_pos h2] at h; cases h
  rw [if_neg h2] at h
  by_cases h3 : (l == [105, 110, 116, 51, 50]) = true
  · rw [if_pos h3] at h; cases h
  rw [if_neg h3] at h
  by_cases h4 : (l == [105, 110, 116, 54, 52]) = true
  · rw [if_pos h4] at h; cases h
  rw [if_neg h4] at h
  by_cases h5 : (l == [117, 105, 110, 116, 56]) = true
  · rw [if_pos h5] at h; cases h
  rw [if_neg h5] at h
  by_cases h6 : (l == [117, 105, 110, 116, 49, 54]) = true
  · rw [if_pos h6] at h; cases h
  rw [if_neg h6] at h
  by_cases h7 : (l == [117, 105, 110, 116, 51, 50]) = true
  · rw [if_pos h7] at h; cases h
  rw [if_neg h7] at h
  by_cases h8 : (l == [117, 105, 110, 116, 54, 52]) = true
  · rw [if_pos h8] at h; cases h
  rw [if_neg h8] at h
  by_cases h9 : (l == [102, 108, 111, 97, 116, 51, 50]) = true
  · rw [if_pos h9] at h; cases h
  rw [if_neg h9] at h
  by_cases h10 : (l == [102, 108, 111, 97, 116, 54, 52]) = true
  · rw [if_pos h10] at h; cases h
  rw [if_neg h10] at h
  by_cases h11 : (l == [115, 116, 114, 105, 110, 103]) = true
  · rw [if_pos h11] at h; cases h
  rw [if_neg h11] at h
  by_cases h12 : (l == [98, 108, 111, 98]) = true
  · rw [if_pos h12] at h; cases h
  rw [if_neg h12] at h
  by_cases h13 : (l == [105, 100, 101, 97, 108, 73, 110, 116]) = true
  · rw [if_pos h13] at h; cases h
  rw [if_neg h13] at h
  by_cases h14 : (l == [105, 100, 101, 97, 108, 82, 117, 110, 101]) = true
  · rw [if_pos h14] at h; cases h
  rw [if_neg h14] at h
  by_cases h15 : (l == [105, 100, 101, 97, 108, 85, 105, 110, 116]) = true
  · rw [if_pos h15] at h; cases h
  rw [if_neg h15] at h
  by_cases h16 : (l == [105, 100, 101, 97, 108, 70, 108, 111, 97, 116]) = true
  · rw [if_pos h16] at h; cases h
  rw [if_neg h16] at h
  by_cases he : l.isEmpty = true
  · rw [if_pos he] at h; cases h
  exact ⟨Bool.eq_false_iff.2 h0, Bool.eq_false_iff.2 h1, Bool.eq_false_iff.2 h2, Bool.eq_false_iff.2 h3, Bool.eq_false_iff.2 h4, Bool.eq_false_iff.2 h5, Bool.eq_false_iff.2 h6, Bool.eq_false_iff.2 h7, Bool.eq_false_iff.2 h8, Bool.eq_false_iff.2 h9, Bool.eq_false_iff.2 h10, Bool.eq_false_iff.2 h11, Bool.eq_false_iff.2 h12, Bool.eq_false_iff.2 h13, Bool.eq_false_iff.2 h14, Bool.eq_false_iff.2 h15, Bool.eq_false_iff.2 h16, Bool.eq_false_iff.2 he⟩

/-- How many binary digits an integer kind has; whether it has a sign. -/
def Kd.width : Kd → Int
  | .int .i8 | .int .u8 => 8
  | .int .i16 | .int .u16 => 16
  | .int .i32 | .int .u32 | .iRune => 32
  | .int .i64 | .int .u64 | .iInt | .iUint => 64
  | _ => 0
def Kd.sgn : Kd → Bool
  | .int .i8 | .int .i16 | .int .i32 | .int .i64 | .iInt | .iRune => true
  | _ => false
def Kd.flt : Kd → Bool
  | .f32 | .f64 | .iFloat => true
  | _ => false
def Kd.ideal : Kd → Bool
  | .iInt | .iRune | .iUint | .iFloat => true
  | _ => false

/-- A float is a number. -/
def numB (f : Nat) : Bool := Ieee.double.order f f == some .eq
/-- A float's digits; all that are no numbers alike. -/
def bitsV (f : Nat) : Nat := if numB f = true then f else 1

/-- A double is one of float32's numbers, or none. -/
def single64 (f : Nat) : Bool := !numB f || (Flt.up (Flt.down f) == f && !((Ieee.single.read (Flt.down f)).isInfinity && !(Ieee.double.read f).isInfinity))

def zeros (f : Nat) (s : ByteArray) : Bool := bitsV f == 0 && s.toList.isEmpty

/-- What 'valid' tells. -/
def validB (kd : Kd) (n u : Int) (f : Nat) (s : ByteArray) : Bool :=
  match kd with
  | .int .i8 => u == 0 && zeros f s && n / 128 == n / 9223372036854775808
  | .int .i16 => u == 0 && zeros f s && n / 32768 == n / 9223372036854775808
  | .int .i32 | .iRune => u == 0 && zeros f s && n / 2147483648 == n / 9223372036854775808
  | .int .i64 | .iInt => u == 0 && zeros f s && n / 9223372036854775808 == n / 9223372036854775808
  | .int .u8 => n == 0 && zeros f s && u / 256 == 0
  | .int .u16 => n == 0 && zeros f s && u / 65536 == 0
  | .int .u32 => n == 0 && zeros f s && u / 4294967296 == 0
  | .int .u64 | .iUint => n == 0 && zeros f s
  | .f32 => n == 0 && u == 0 && s.toList.isEmpty && single64 f
  | .f64 | .iFloat => n == 0 && u == 0 && s.toList.isEmpty
  | .bool => u == 0 && zeros f s && (n == 0 || n == 1)
  | .str | .blob => n == 0 && u == 0 && bitsV f == 0 && decide ((s.size : Int) ≤ 65536)
  | .null => n == 0 && u == 0 && zeros f s
  | .other => false

end Go.Proofs.YtffgkocokkhahaaGreatDoor
