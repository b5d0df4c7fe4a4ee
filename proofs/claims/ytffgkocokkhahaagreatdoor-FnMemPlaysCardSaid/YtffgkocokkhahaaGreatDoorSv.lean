/-
  The values of the database as plain data, and their order. Nothing of Go's memory here.
-/
import GoSem.Op.String
import GoSem.Core.View
import Derived.Test.YtffgkocokkhahaaGreatDoorFlt
namespace Go.Proofs.YtffgkocokkhahaaGreatDoor

/-- A value of the database. -/
inductive SV where
  | null
  | bool (b : Bool)
  | int (k : IntKind) (n : Int)
  | f32 (x : Nat)
  | f64 (x : Nat)
  | str (s : ByteArray)
  | blob (s : List UInt8)
  | iInt (n : Int)
  | iRune (n : Int)
  | iUint (n : Int)
  | iFloat (x : Nat)

def SV.isLit : SV → Bool
  | .iInt _ | .iRune _ | .iUint _ | .iFloat _ => true
  | _ => false

def kindRank : IntKind → Int
  | .i8 => 11 | .i16 => 12 | .i32 => 13 | .i64 => 14 | .u8 => 15 | .u16 => 16 | .u32 => 17 | .u64 => 18

def SV.rank : SV → Int
  | .null => 0 | .bool _ => 1 | .iFloat _ => 5 | .f32 _ => 6 | .f64 _ => 7 | .iInt _ => 8 | .iRune _ => 9 | .iUint _ => 10
  | .int k _ => kindRank k | .str _ => 23 | .blob _ => 24

def three (lt eq : Bool) : Int := if lt then -1 else if eq then 0 else 1

def byRank (a b : SV) : Int := if a.rank < b.rank then -1 else if a.rank > b.rank then 1 else 0

def bytesOrd (x y : List UInt8) : Int := three (Op.bytesLess x y) (x == y)

/-- collate1 of values that are no literals'. -/
def SV.coll : SV → SV → Int
  | .null, .null => 0
  | .null, _ => -1
  | .bool _, .null => 1
  | .bool x, .bool y => three (!x && y) (x == y)
  | .bool _, _ => -1
  | .int k x, .int l y => if k = l then three (decide (x < y)) (x == y) else byRank (.int k x) (.int l y)
  | .f32 x, .f32 y => three (Ieee.single.order x y == some .lt) (Ieee.single.order x y == some .eq)
  | .f64 x, .f64 y => three (Ieee.double.order x y == some .lt) (Ieee.double.order x y == some .eq)
  | .str x, .str y => bytesOrd x.toList y.toList
  | .blob x, .blob y => bytesOrd x y
  | _, .null => 1
  | a, b => byRank a b

/-- A value of a type, and a number, if it is a float. -/
def SV.plain : SV → Prop
  | .iInt _ | .iRune _ | .iUint _ | .iFloat _ => False
  | .f32 x => Ieee.single.order x x = some .eq
  | .f64 x => Ieee.double.order x x = some .eq
  | _ => True

/-! ### The order is one -/

def icmp (x y : Int) : Int := if x < y then -1 else if x = y then 0 else 1

/-- A key of the floats on one scale. -/
def SV.key : SV → Int
  | .bool b => if b then 1 else 0
  | .int _ n => n
  | .f32 x => (Flt.key32 x).getD 0
  | .f64 x => (Flt.key64 x).getD 0
  | _ => 0
def SV.text : SV → List UInt8
  | .str s => s.toList
  | .blob s => s
  | _ => []

theorem compare_icmp (x y : Int) : compare x y = if x < y then .lt else if x = y then .eq else .gt := rfl

theorem order_three {o : Option Ordering} {x y : Int} (h : o = some (compare x y)) : three (o == some .lt) (o == some .eq) = icmp x y := by
  subst h
  rw [compare_icmp]
  unfold three icmp
  by_cases h1 : x < y
  · simp [h1]
  · by_cases h2 : x = y
    · simp [h2]
    · simp [h1, h2]

theorem key32_some {x : Nat} (h : Ieee.single.order x x = some .eq) : Flt.key32 x = some ((Flt.key32 x).getD 0) := by
  rw [Flt.order32] at h
  cases hk : Flt.key32 x with
  | none => rw [hk] at h; cases h
  | some k => rfl
theorem key64_some {x : Nat} (h : Ieee.double.order x x = some .eq) : Flt.key64 x = some ((Flt.key64 x).getD 0) := by
  rw [Flt.order64] at h
  cases hk : Flt.key64 x with
  | none => rw [hk] at h; cases h
  | some k => rfl

/-- Lexicographic order of bytes as a number. -/
def tcmp (x y : List UInt8) : Int := bytesOrd x y

theorem bytesLess_irrefl (x : List UInt8) : Op.bytesLess x x = false := by
  induction x with
  | nil => rfl
  | cons a x ih => simp [Op.bytesLess, ih]

theorem bytesLess_trans : ∀ {x y z : List UInt8}, Op.bytesLess x y = true → Op.bytesLess y z = true → Op.bytesLess x z = true
  | _, [], _, h, _ => by cases ‹List UInt8› <;> simp [Op.bytesLess] at h
  | _, _ :: _, [], _, h => by simp [Op.bytesLess] at h
  | [], _ :: _, _ :: _, _, _ => by simp [Op.bytesLess]
  | a :: x, b :: y, c :: z, h1, h2 => by
    simp only [Op.bytesLess, Bool.or_eq_true, decide_eq_true_eq, Bool.and_eq_true, beq_iff_eq] at *
    rcases h1 with h1 | ⟨rfl, h1⟩
    · rcases h2 with h2 | ⟨rfl, h2⟩
      · exact .inl (UInt8.lt_trans h1 h2)
      · exact .inl h1
    · rcases h2 with h2 | ⟨rfl, h2⟩
      · exact .inl h2
      · exact .inr ⟨rfl, bytesLess_trans h1 h2⟩

theorem bytesLess_total : ∀ (x y : List UInt8), Op.bytesLess x y = false → x ≠ y → Op.bytesLess y x = true
  | [], [], _, h => absurd rfl h
  | [], _ :: _, h, _ => by simp [Op.bytesLess] at h
  | _ :: _, [], _, _ => by simp [Op.bytesLess]
  | a :: x, b :: y, h, hne => by
    simp only [Op.bytesLess, Bool.or_eq_false_iff, decide_eq_false_iff_not, Bool.and_eq_false_iff, beq_eq_false_iff_ne, Bool.or_eq_true, decide_eq_true_eq, Bool.and_eq_true, beq_iff_eq] at *
    by_cases hab : a = b
    · subst hab
      refine .inr ⟨rfl, bytesLess_total x y ?_ (fun e => hne (by rw [e]))⟩
      rcases h.2 with h' | h'
      · exact absurd rfl h'
      · exact h'
    · left
      have := h.1
      rcases UInt8.lt_or_lt_of_ne hab with h' | h'
      · exact absurd h' this
      · exact h'


def SV.lex (a b : SV) : Int :=
  if a.rank < b.rank then -1 else if b.rank < a.rank then 1 else if a.key < b.key then -1 else if b.key < a.key then 1 else bytesOrd a.text b.text

theorem lex_ne {a b : SV} (h : a.rank ≠ b.rank) : byRank a b = a.lex b := by
  unfold byRank SV.lex
  by_cases h1 : a.rank < b.rank
  · simp [h1]
  · have h2 : b.rank < a.rank := by omega
    simp [h1, h2]

theorem lex_lt {a b : SV} (h : a.rank < b.rank) : a.lex b = -1 := by
  unfold SV.lex
  rw [if_pos h]
theorem lex_gt {a b : SV} (h : b.rank < a.rank) : a.lex b = 1 := by
  unfold SV.lex
  rw [if_neg (by omega), if_pos h]
theorem lex_eq (a b : SV) (h : a.rank = b.rank) (ht : a.text = b.text) : a.lex b = icmp a.key b.key := by
  have hb : bytesOrd b.text b.text = 0 := by simp [bytesOrd, three, bytesLess_irrefl]
  unfold SV.lex icmp
  rw [if_neg (by omega), if_neg (by omega), ht, hb]
  by_cases h1 : a.key < b.key
  · simp [h1]
  · by_cases h2 : b.key < a.key
    · rw [if_neg h1, if_pos h2, if_neg h1, if_neg (by omega)]
    · rw [if_neg h1, if_neg h2, if_neg h1, if_pos (by omega)]

theorem lex_text (a b : SV) (h : a.rank = b.rank) (hk : a.key = b.key) : a.lex b = bytesOrd a.text b.text := by
  unfold SV.lex
  rw [if_neg (by omega), if_neg (by omega), if_neg (by omega), if_neg (by omega)]

theorem kindRank_inj {k l : IntKind} (h : kindRank k = kindRank l) : k = l := by cases k <;> cases l <;> first | rfl | (exact absurd h (by decide))
theorem kindRank_bounds (k : IntKind) : 11 ≤ kindRank k ∧ kindRank k ≤ 18 := by cases k <;> decide

theorem three_int (x y : Int) : three (decide (x < y)) (x == y) = icmp x y := by
  unfold three icmp
  by_cases h1 : x < y <;> by_cases h2 : x = y <;> simp [h1, h2]

theorem coll_lex {a b : SV} (ha : a.plain) (hb : b.plain) : a.coll b = a.lex b := by
  cases a with
  | null => cases b with
    | null => rfl
    | int k n => have := kindRank_bounds k; exact (lex_lt (by simp only [SV.rank]; omega)).symm
    | _ => first | rfl | exact hb.elim
  | bool x => cases b with
    | bool y => cases x <;> cases y <;> rfl
    | int k n => have := kindRank_bounds k; exact (lex_lt (by simp only [SV.rank]; omega)).symm
    | _ => first | rfl | exact hb.elim
  | int k n =>
    have hk := kindRank_bounds k
    cases b with
    | int l m =>
      simp only [SV.coll]
      by_cases hkl : k = l
      · subst hkl
        rw [if_pos rfl, lex_eq (.int k n) (.int k m) rfl rfl, three_int]
        rfl
      · rw [if_neg hkl]
        exact lex_ne (fun h => hkl (kindRank_inj h))
    | null => exact (lex_gt (by simp only [SV.rank]; omega)).symm
    | _ => first | exact lex_ne (by simp only [SV.rank]; omega) | exact hb.elim
  | f32 x =>
    cases b with
    | f32 y =>
      rw [lex_eq (.f32 x) (.f32 y) rfl rfl]
      simp only [SV.coll, SV.key]
      refine order_three ?_
      rw [Flt.order32, key32_some ha, key32_some hb]
      rfl
    | int k n => have := kindRank_bounds k; exact lex_ne (by simp only [SV.rank]; omega)
    | _ => first | rfl | exact hb.elim
  | f64 x =>
    cases b with
    | f64 y =>
      rw [lex_eq (.f64 x) (.f64 y) rfl rfl]
      simp only [SV.coll, SV.key]
      refine order_three ?_
      rw [Flt.order64, key64_some ha, key64_some hb]
      rfl
    | int k n => have := kindRank_bounds k; exact lex_ne (by simp only [SV.rank]; omega)
    | _ => first | rfl | exact hb.elim
  | str s =>
    cases b with
    | str t => exact (lex_text (.str s) (.str t) rfl rfl).symm
    | int k n => have := kindRank_bounds k; exact lex_ne (by simp only [SV.rank]; omega)
    | _ => first | rfl | exact hb.elim
  | blob s =>
    cases b with
    | blob t => exact (lex_text (.blob s) (.blob t) rfl rfl).symm
    | int k n => have := kindRank_bounds k; exact lex_ne (by simp only [SV.rank]; omega)
    | _ => first | rfl | exact hb.elim
  | _ => exact ha.elim

theorem bytesOrd_cases (x y : List UInt8) : (bytesOrd x y = -1 ∧ Op.bytesLess x y = true) ∨ (bytesOrd x y = 0 ∧ x = y) ∨ (bytesOrd x y = 1 ∧ Op.bytesLess y x = true) := by
  unfold bytesOrd three
  by_cases h : Op.bytesLess x y = true
  · simp [h]
  · by_cases he : x = y
    · subst he; simp [bytesLess_irrefl]
    · have := bytesLess_total x y (by simpa using h) he
      simp [h, he, this]

theorem bytesOrd_chain (x y z : List UInt8) : (bytesOrd x y ≤ 0 → bytesOrd y z ≤ 0 → bytesOrd x z ≤ 0 ∧ (bytesOrd x z = 0 → bytesOrd x y = 0 ∧ bytesOrd y z = 0)) ∧
    (0 ≤ bytesOrd x y → 0 ≤ bytesOrd y z → 0 ≤ bytesOrd x z ∧ (bytesOrd x z = 0 → bytesOrd x y = 0 ∧ bytesOrd y z = 0)) := by
  have irr := bytesLess_irrefl
  have contra : ∀ {p q : List UInt8}, Op.bytesLess p q = true → Op.bytesLess q p = true → False := fun h1 h2 => by
    have := bytesLess_trans h1 h2
    rw [irr] at this
    cases this
  have fwd : ∀ {p q : List UInt8}, Op.bytesLess p q = true → bytesOrd p q = -1 := fun h => by simp [bytesOrd, three, h]
  have bwd : ∀ {p q : List UInt8}, Op.bytesLess q p = true → bytesOrd p q = 1 := fun {p q} h => by
    rcases bytesOrd_cases p q with ⟨_, h2⟩ | ⟨_, rfl⟩ | ⟨h1, _⟩
    · exact (contra h h2).elim
    · rw [irr] at h; cases h
    · exact h1
  rcases bytesOrd_cases x y with ⟨e1, h1⟩ | ⟨e1, h1⟩ | ⟨e1, h1⟩ <;> rcases bytesOrd_cases y z with ⟨e2, h2⟩ | ⟨e2, h2⟩ | ⟨e2, h2⟩
  all_goals rw [e1, e2]
  all_goals first
    | (have := fwd (bytesLess_trans h1 h2); omega)
    | (have := bwd (bytesLess_trans h2 h1); omega)
    | (subst h1; omega)
    | (subst h2; omega)
    | omega

/-- The order chains. -/
theorem lex_chain (a b c : SV) : (a.lex b ≤ 0 → b.lex c ≤ 0 → a.lex c ≤ 0 ∧ (a.lex c = 0 → a.lex b = 0 ∧ b.lex c = 0)) ∧
    (0 ≤ a.lex b → 0 ≤ b.lex c → 0 ≤ a.lex c ∧ (a.lex c = 0 → a.lex b = 0 ∧ b.lex c = 0)) := by
  obtain ⟨t1, t2⟩ := bytesOrd_chain a.text b.text c.text
  unfold SV.lex
  generalize bytesOrd a.text b.text = x at *
  generalize bytesOrd b.text c.text = y at *
  generalize bytesOrd a.text c.text = z at *
  generalize a.rank = r at *
  generalize b.rank = s at *
  generalize c.rank = t at *
  generalize a.key = k at *
  generalize b.key = l at *
  generalize c.key = m at *
  constructor
  · intro h1 h2
    split at h1 <;> split at h2 <;> split <;> omega
  · intro h1 h2
    split at h1 <;> split at h2 <;> split <;> omega

end Go.Proofs.YtffgkocokkhahaaGreatDoor
