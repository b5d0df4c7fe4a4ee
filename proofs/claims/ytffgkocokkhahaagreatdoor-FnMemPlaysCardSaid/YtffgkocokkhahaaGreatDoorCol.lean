/-
  ql.collate1 of any two values that are no literals and no NaN; impl.Collate, impl.Rank. PRINTED BY wip/tpl/gen_coc.py.
-/
import Derived.Test.YtffgkocokkhahaaGreatDoorCola
import Derived.Test.YtffgkocokkhahaaGreatDoorColb
import Derived.Test.YtffgkocokkhahaaGreatDoorColc
import Derived.Test.YtffgkocokkhahaaGreatDoorColz
import Derived.Test.YtffgkocokkhahaaGreatDoorConc
import Derived.Deep.RegionWith
namespace Go.Proofs.YtffgkocokkhahaaGreatDoor
open Go.RowKit

theorem below_al3 (w : World) (a b c : Obj) : Below w.heap.size w (((w.alloc a).alloc b).alloc c) := (((Below.refl _ _).alloc (Nat.le_refl _) _).alloc (by simp) _).alloc (by simp; omega) _

theorem coll_int_same (k : IntKind) (b m : Int) : SV.coll (.int k b) (.int k m) = three (decide (b < m)) (b == m) := by simp [SV.coll]

def ColP (c : Int) (w : World) (e : Ending) (w' : World) : Prop := e = .returned (.int .i64 c) ∧ Below w.heap.size w w'

theorem colP_of {c : Int} {u v : Value} {w : World} (h : Calls Tryz.prog 119 #[u, v] w fun e w' => e = .returned (.int .i64 c) ∧ w = w') : Calls Tryz.prog 119 #[u, v] w (ColP c w) :=
  h.mono fun _ _ ⟨h1, h2⟩ => ⟨h1, by subst h2; exact Below.refl _ _⟩

/-- A value that is not NULL, of a type that is not T. -/
theorem shape_nn {w : World} {y : SV} {v : Value} (h : Rep w y v) (hy : y.isLit = false) (h0 : y.rank ≠ 0) (T : TypeId) (hT : y.ty ≠ T) : ∃ V z, v = .iface V z ∧ V ≠ T ∧ V ≠ 197 ∧ V ≠ 198 ∧ V ≠ 199 ∧ V ≠ 200 := by
  rcases shape_not h hy T hT with rfl | h
  · cases y with
    | null => exact absurd rfl h0
    | blob l => obtain ⟨a, cap, h, _⟩ := h; cases h
    | _ => cases h
  · exact h

theorem plain_lit {x : SV} (h : x.plain) : x.isLit = false := by cases x <;> first | rfl | exact h.elim

theorem cou_bool (b : Bool) (y : SV) (u v : Value) (w : World) (hu : Rep w (SV.bool b) u) (hv : Rep w y v) (hy : y.isLit = false) (h0 : y.rank ≠ 0) (hT : y.ty ≠ 4) :
    Calls Tryz.prog 119 #[u, v] w (ColP (-1) w) := by
  have hd := diff_rep (SV.bool b) y u v w hu hv
  obtain ⟨V, z, rfl, b0, b1, b2, b3, b4⟩ := shape_nn hv hy h0 4 hT
  obtain rfl : u = _ := hu
  exact colP_of (cox_bool _ z V _ w hd b0 b1 b2 b3 b4)

theorem cou_f32 (b : Nat) (y : SV) (u v : Value) (w : World) (hu : Rep w (SV.f32 b) u) (hv : Rep w y v) (hy : y.isLit = false) (h0 : y.rank ≠ 0) (hT : y.ty ≠ 161) :
    Calls Tryz.prog 119 #[u, v] w (ColP (byRank (SV.f32 b) y) w) := by
  have hd := diff_rep (SV.f32 b) y u v w hu hv
  obtain ⟨V, z, rfl, b0, b1, b2, b3, b4⟩ := shape_nn hv hy h0 161 hT
  obtain rfl : u = _ := hu
  exact colP_of (cox_f32 _ z V _ w hd b0 b1 b2 b3 b4)

theorem cou_f64 (b : Nat) (y : SV) (u v : Value) (w : World) (hu : Rep w (SV.f64 b) u) (hv : Rep w y v) (hy : y.isLit = false) (h0 : y.rank ≠ 0) (hT : y.ty ≠ 55) :
    Calls Tryz.prog 119 #[u, v] w (ColP (byRank (SV.f64 b) y) w) := by
  have hd := diff_rep (SV.f64 b) y u v w hu hv
  obtain ⟨V, z, rfl, b0, b1, b2, b3, b4⟩ := shape_nn hv hy h0 55 hT
  obtain rfl : u = _ := hu
  exact colP_of (cox_f64 _ z V _ w hd b0 b1 b2 b3 b4)

theorem cou_str (b : ByteArray) (y : SV) (u v : Value) (w : World) (hu : Rep w (SV.str b) u) (hv : Rep w y v) (hy : y.isLit = false) (h0 : y.rank ≠ 0) (hT : y.ty ≠ 9) :
    Calls Tryz.prog 119 #[u, v] w (ColP (byRank (SV.str b) y) w) := by
  have hd := diff_rep (SV.str b) y u v w hu hv
  obtain ⟨V, z, rfl, b0, b1, b2, b3, b4⟩ := shape_nn hv hy h0 9 hT
  obtain rfl : u = _ := hu
  exact colP_of (cox_str _ z V _ w hd b0 b1 b2 b3 b4)

theorem cou_blob (b : List UInt8) (y : SV) (u v : Value) (w : World) (hu : Rep w (SV.blob b) u) (hv : Rep w y v) (hy : y.isLit = false) (h0 : y.rank ≠ 0) (hT : y.ty ≠ 188) :
    Calls Tryz.prog 119 #[u, v] w (ColP (byRank (SV.blob b) y) w) := by
  have hd := diff_rep (SV.blob b) y u v w hu hv
  obtain ⟨V, z, rfl, b0, b1, b2, b3, b4⟩ := shape_nn hv hy h0 188 hT
  obtain ⟨a, cap, rfl, _⟩ := hu
  exact colP_of (cox_blob _ z V _ w hd b0 b1 b2 b3 b4)

theorem cou_i8 (b : Int) (y : SV) (u v : Value) (w : World) (hu : Rep w (SV.int .i8 b) u) (hv : Rep w y v) (hy : y.isLit = false) (h0 : y.rank ≠ 0) (hT : y.ty ≠ (kindT .i8)) :
    Calls Tryz.prog 119 #[u, v] w (ColP (byRank (SV.int .i8 b) y) w) := by
  have hd := diff_rep (SV.int .i8 b) y u v w hu hv
  obtain ⟨V, z, rfl, b0, b1, b2, b3, b4⟩ := shape_nn hv hy h0 (kindT .i8) hT
  obtain rfl : u = _ := hu
  exact colP_of (cox_i8 _ z V _ w hd b0 b1 b2 b3 b4)

theorem cou_i16 (b : Int) (y : SV) (u v : Value) (w : World) (hu : Rep w (SV.int .i16 b) u) (hv : Rep w y v) (hy : y.isLit = false) (h0 : y.rank ≠ 0) (hT : y.ty ≠ (kindT .i16)) :
    Calls Tryz.prog 119 #[u, v] w (ColP (byRank (SV.int .i16 b) y) w) := by
  have hd := diff_rep (SV.int .i16 b) y u v w hu hv
  obtain ⟨V, z, rfl, b0, b1, b2, b3, b4⟩ := shape_nn hv hy h0 (kindT .i16) hT
  obtain rfl : u = _ := hu
  exact colP_of (cox_i16 _ z V _ w hd b0 b1 b2 b3 b4)

theorem cou_i32 (b : Int) (y : SV) (u v : Value) (w : World) (hu : Rep w (SV.int .i32 b) u) (hv : Rep w y v) (hy : y.isLit = false) (h0 : y.rank ≠ 0) (hT : y.ty ≠ (kindT .i32)) :
    Calls Tryz.prog 119 #[u, v] w (ColP (byRank (SV.int .i32 b) y) w) := by
  have hd := diff_rep (SV.int .i32 b) y u v w hu hv
  obtain ⟨V, z, rfl, b0, b1, b2, b3, b4⟩ := shape_nn hv hy h0 (kindT .i32) hT
  obtain rfl : u = _ := hu
  exact colP_of (cox_i32 _ z V _ w hd b0 b1 b2 b3 b4)

theorem cou_i64 (b : Int) (y : SV) (u v : Value) (w : World) (hu : Rep w (SV.int .i64 b) u) (hv : Rep w y v) (hy : y.isLit = false) (h0 : y.rank ≠ 0) (hT : y.ty ≠ (kindT .i64)) :
    Calls Tryz.prog 119 #[u, v] w (ColP (byRank (SV.int .i64 b) y) w) := by
  have hd := diff_rep (SV.int .i64 b) y u v w hu hv
  obtain ⟨V, z, rfl, b0, b1, b2, b3, b4⟩ := shape_nn hv hy h0 (kindT .i64) hT
  obtain rfl : u = _ := hu
  exact colP_of (cox_i64 _ z V _ w hd b0 b1 b2 b3 b4)

theorem cou_u8 (b : Int) (y : SV) (u v : Value) (w : World) (hu : Rep w (SV.int .u8 b) u) (hv : Rep w y v) (hy : y.isLit = false) (h0 : y.rank ≠ 0) (hT : y.ty ≠ (kindT .u8)) :
    Calls Tryz.prog 119 #[u, v] w (ColP (byRank (SV.int .u8 b) y) w) := by
  have hd := diff_rep (SV.int .u8 b) y u v w hu hv
  obtain ⟨V, z, rfl, b0, b1, b2, b3, b4⟩ := shape_nn hv hy h0 (kindT .u8) hT
  obtain rfl : u = _ := hu
  exact colP_of (cox_u8 _ z V _ w hd b0 b1 b2 b3 b4)

theorem cou_u16 (b : Int) (y : SV) (u v : Value) (w : World) (hu : Rep w (SV.int .u16 b) u) (hv : Rep w y v) (hy : y.isLit = false) (h0 : y.rank ≠ 0) (hT : y.ty ≠ (kindT .u16)) :
    Calls Tryz.prog 119 #[u, v] w (ColP (byRank (SV.int .u16 b) y) w) := by
  have hd := diff_rep (SV.int .u16 b) y u v w hu hv
  obtain ⟨V, z, rfl, b0, b1, b2, b3, b4⟩ := shape_nn hv hy h0 (kindT .u16) hT
  obtain rfl : u = _ := hu
  exact colP_of (cox_u16 _ z V _ w hd b0 b1 b2 b3 b4)

theorem cou_u32 (b : Int) (y : SV) (u v : Value) (w : World) (hu : Rep w (SV.int .u32 b) u) (hv : Rep w y v) (hy : y.isLit = false) (h0 : y.rank ≠ 0) (hT : y.ty ≠ (kindT .u32)) :
    Calls Tryz.prog 119 #[u, v] w (ColP (byRank (SV.int .u32 b) y) w) := by
  have hd := diff_rep (SV.int .u32 b) y u v w hu hv
  obtain ⟨V, z, rfl, b0, b1, b2, b3, b4⟩ := shape_nn hv hy h0 (kindT .u32) hT
  obtain rfl : u = _ := hu
  exact colP_of (cox_u32 _ z V _ w hd b0 b1 b2 b3 b4)

theorem cou_u64 (b : Int) (y : SV) (u v : Value) (w : World) (hu : Rep w (SV.int .u64 b) u) (hv : Rep w y v) (hy : y.isLit = false) (h0 : y.rank ≠ 0) (hT : y.ty ≠ (kindT .u64)) :
    Calls Tryz.prog 119 #[u, v] w (ColP (byRank (SV.int .u64 b) y) w) := by
  have hd := diff_rep (SV.int .u64 b) y u v w hu hv
  obtain ⟨V, z, rfl, b0, b1, b2, b3, b4⟩ := shape_nn hv hy h0 (kindT .u64) hT
  obtain rfl : u = _ := hu
  exact colP_of (cox_u64 _ z V _ w hd b0 b1 b2 b3 b4)

theorem coll1_any (x y : SV) (px : x.plain) (py : y.plain) (u v : Value) (w : World) (hu : Rep w x u) (hv : Rep w y v) :
    Calls Tryz.prog 119 #[u, v] w (ColP (x.coll y) w) := by
  have ly := plain_lit py
  cases x with
  | iInt n => exact px.elim
  | iRune n => exact px.elim
  | iUint n => exact px.elim
  | iFloat n => exact px.elim
  | null =>
    obtain rfl : u = _ := hu
    cases y with
    | null => obtain rfl : v = _ := hv; exact colP_of (con_null w)
    | blob l => obtain ⟨a, cap, rfl, _⟩ := hv; exact colP_of (cox_null _ _ w)
    | iInt n => exact py.elim
    | iRune n => exact py.elim
    | iUint n => exact py.elim
    | iFloat n => exact py.elim
    | _ => obtain rfl : v = _ := hv; exact colP_of (cox_null _ _ w)
  | bool b =>
    cases y with
    | null => obtain rfl : v = _ := hv; obtain rfl : u = _ := hu; exact colP_of (con_bool _ w)
    | iInt n => exact py.elim
    | iRune n => exact py.elim
    | iUint n => exact py.elim
    | iFloat n => exact py.elim
    | bool c => obtain rfl : u = _ := hu; obtain rfl : v = _ := hv; exact colP_of (col_bool b c w)
    | int k m => exact cou_bool b _ u v w hu hv ly (by cases k <;> simp [SV.rank, kindRank]) (by cases k <;> simp [SV.ty, kindT])
    | _ => exact cou_bool b _ u v w hu hv ly (by simp [SV.rank]) (by simp [SV.ty])
  | f32 b =>
    cases y with
    | null => obtain rfl : v = _ := hv; obtain rfl : u = _ := hu; exact colP_of (con_f32 _ w)
    | iInt n => exact py.elim
    | iRune n => exact py.elim
    | iUint n => exact py.elim
    | iFloat n => exact py.elim
    | f32 c => obtain rfl : u = _ := hu; obtain rfl : v = _ := hv; exact colP_of (col_f32 b c w)
    | int k m => exact cou_f32 b _ u v w hu hv ly (by cases k <;> simp [SV.rank, kindRank]) (by cases k <;> simp [SV.ty, kindT])
    | _ => exact cou_f32 b _ u v w hu hv ly (by simp [SV.rank]) (by simp [SV.ty])
  | f64 b =>
    cases y with
    | null => obtain rfl : v = _ := hv; obtain rfl : u = _ := hu; exact colP_of (con_f64 _ w)
    | iInt n => exact py.elim
    | iRune n => exact py.elim
    | iUint n => exact py.elim
    | iFloat n => exact py.elim
    | f64 c => obtain rfl : u = _ := hu; obtain rfl : v = _ := hv; exact colP_of (col_f64 b c w)
    | int k m => exact cou_f64 b _ u v w hu hv ly (by cases k <;> simp [SV.rank, kindRank]) (by cases k <;> simp [SV.ty, kindT])
    | _ => exact cou_f64 b _ u v w hu hv ly (by simp [SV.rank]) (by simp [SV.ty])
  | str b =>
    cases y with
    | null => obtain rfl : v = _ := hv; obtain rfl : u = _ := hu; exact colP_of (con_str _ w)
    | iInt n => exact py.elim
    | iRune n => exact py.elim
    | iUint n => exact py.elim
    | iFloat n => exact py.elim
    | str c => obtain rfl : u = _ := hu; obtain rfl : v = _ := hv; exact colP_of (col_str b c w)
    | int k m => exact cou_str b _ u v w hu hv ly (by cases k <;> simp [SV.rank, kindRank]) (by cases k <;> simp [SV.ty, kindT])
    | _ => exact cou_str b _ u v w hu hv ly (by simp [SV.rank]) (by simp [SV.ty])
  | blob b =>
    cases y with
    | null => obtain rfl : v = _ := hv; obtain ⟨a, cap, rfl, _⟩ := hu; exact colP_of (con_blob _ w)
    | iInt n => exact py.elim
    | iRune n => exact py.elim
    | iUint n => exact py.elim
    | iFloat n => exact py.elim
    | blob c => exact col_blob b c u v w hu hv
    | int k m => exact cou_blob b _ u v w hu hv ly (by cases k <;> simp [SV.rank, kindRank]) (by cases k <;> simp [SV.ty, kindT])
    | _ => exact cou_blob b _ u v w hu hv ly (by simp [SV.rank]) (by simp [SV.ty])
  | int k b =>
    cases k
    case i8 =>
      cases y with
      | null => obtain rfl : v = _ := hv; obtain rfl : u = _ := hu; exact colP_of (con_i8 _ w)
      | iInt n => exact py.elim
      | iRune n => exact py.elim
      | iUint n => exact py.elim
      | iFloat n => exact py.elim
      | int l m =>
        by_cases hl : IntKind.i8 = l
        · subst hl
          obtain rfl : u = _ := hu
          obtain rfl : v = _ := hv
          rw [show SV.coll (.int .i8 b) (.int .i8 m) = three (decide (b < m)) (b == m) from coll_int_same _ _ _]
          exact colP_of (col_i8 b m w)
        · rw [show SV.coll (.int .i8 b) (.int l m) = byRank (.int .i8 b) (.int l m) from if_neg hl]
          exact cou_i8 b _ u v w hu hv ly (by cases l <;> simp [SV.rank, kindRank]) (by cases l <;> first | exact absurd rfl hl | simp [SV.ty, kindT])
      | _ => exact cou_i8 b _ u v w hu hv ly (by simp [SV.rank]) (by simp [SV.ty, kindT])
    case i16 =>
      cases y with
      | null => obtain rfl : v = _ := hv; obtain rfl : u = _ := hu; exact colP_of (con_i16 _ w)
      | iInt n => exact py.elim
      | iRune n => exact py.elim
      | iUint n => exact py.elim
      | iFloat n => exact py.elim
      | int l m =>
        by_cases hl : IntKind.i16 = l
        · subst hl
          obtain rfl : u = _ := hu
          obtain rfl : v = _ := hv
          rw [show SV.coll (.int .i16 b) (.int .i16 m) = three (decide (b < m)) (b == m) from coll_int_same _ _ _]
          exact colP_of (col_i16 b m w)
        · rw [show SV.coll (.int .i16 b) (.int l m) = byRank (.int .i16 b) (.int l m) from if_neg hl]
          exact cou_i16 b _ u v w hu hv ly (by cases l <;> simp [SV.rank, kindRank]) (by cases l <;> first | exact absurd rfl hl | simp [SV.ty, kindT])
      | _ => exact cou_i16 b _ u v w hu hv ly (by simp [SV.rank]) (by simp [SV.ty, kindT])
    case i32 =>
      cases y with
      | null => obtain rfl : v = _ := hv; obtain rfl : u = _ := hu; exact colP_of (con_i32 _ w)
      | iInt n => exact py.elim
      | iRune n => exact py.elim
      | iUint n => exact py.elim
      | iFloat n => exact py.elim
      | int l m =>
        by_cases hl : IntKind.i32 = l
        · subst hl
          obtain rfl : u = _ := hu
          obtain rfl : v = _ := hv
          rw [show SV.coll (.int .i32 b) (.int .i32 m) = three (decide (b < m)) (b == m) from coll_int_same _ _ _]
          exact colP_of (col_i32 b m w)
        · rw [show SV.coll (.int .i32 b) (.int l m) = byRank (.int .i32 b) (.int l m) from if_neg hl]
          exact cou_i32 b _ u v w hu hv ly (by cases l <;> simp [SV.rank, kindRank]) (by cases l <;> first | exact absurd rfl hl | simp [SV.ty, kindT])
      | _ => exact cou_i32 b _ u v w hu hv ly (by simp [SV.rank]) (by simp [SV.ty, kindT])
    case i64 =>
      cases y with
      | null => obtain rfl : v = _ := hv; obtain rfl : u = _ := hu; exact colP_of (con_i64 _ w)
      | iInt n => exact py.elim
      | iRune n => exact py.elim
      | iUint n => exact py.elim
      | iFloat n => exact py.elim
      | int l m =>
        by_cases hl : IntKind.i64 = l
        · subst hl
          obtain rfl : u = _ := hu
          obtain rfl : v = _ := hv
          rw [show SV.coll (.int .i64 b) (.int .i64 m) = three (decide (b < m)) (b == m) from coll_int_same _ _ _]
          exact colP_of (col_i64 b m w)
        · rw [show SV.coll (.int .i64 b) (.int l m) = byRank (.int .i64 b) (.int l m) from if_neg hl]
          exact cou_i64 b _ u v w hu hv ly (by cases l <;> simp [SV.rank, kindRank]) (by cases l <;> first | exact absurd rfl hl | simp [SV.ty, kindT])
      | _ => exact cou_i64 b _ u v w hu hv ly (by simp [SV.rank]) (by simp [SV.ty, kindT])
    case u8 =>
      cases y with
      | null => obtain rfl : v = _ := hv; obtain rfl : u = _ := hu; exact colP_of (con_u8 _ w)
      | iInt n => exact py.elim
      | iRune n => exact py.elim
      | iUint n => exact py.elim
      | iFloat n => exact py.elim
      | int l m =>
        by_cases hl : IntKind.u8 = l
        · subst hl
          obtain rfl : u = _ := hu
          obtain rfl : v = _ := hv
          rw [show SV.coll (.int .u8 b) (.int .u8 m) = three (decide (b < m)) (b == m) from coll_int_same _ _ _]
          exact colP_of (col_u8 b m w)
        · rw [show SV.coll (.int .u8 b) (.int l m) = byRank (.int .u8 b) (.int l m) from if_neg hl]
          exact cou_u8 b _ u v w hu hv ly (by cases l <;> simp [SV.rank, kindRank]) (by cases l <;> first | exact absurd rfl hl | simp [SV.ty, kindT])
      | _ => exact cou_u8 b _ u v w hu hv ly (by simp [SV.rank]) (by simp [SV.ty, kindT])
    case u16 =>
      cases y with
      | null => obtain rfl : v = _ := hv; obtain rfl : u = _ := hu; exact colP_of (con_u16 _ w)
      | iInt n => exact py.elim
      | iRune n => exact py.elim
      | iUint n => exact py.elim
      | iFloat n => exact py.elim
      | int l m =>
        by_cases hl : IntKind.u16 = l
        · subst hl
          obtain rfl : u = _ := hu
          obtain rfl : v = _ := hv
          rw [show SV.coll (.int .u16 b) (.int .u16 m) = three (decide (b < m)) (b == m) from coll_int_same _ _ _]
          exact colP_of (col_u16 b m w)
        · rw [show SV.coll (.int .u16 b) (.int l m) = byRank (.int .u16 b) (.int l m) from if_neg hl]
          exact cou_u16 b _ u v w hu hv ly (by cases l <;> simp [SV.rank, kindRank]) (by cases l <;> first | exact absurd rfl hl | simp [SV.ty, kindT])
      | _ => exact cou_u16 b _ u v w hu hv ly (by simp [SV.rank]) (by simp [SV.ty, kindT])
    case u32 =>
      cases y with
      | null => obtain rfl : v = _ := hv; obtain rfl : u = _ := hu; exact colP_of (con_u32 _ w)
      | iInt n => exact py.elim
      | iRune n => exact py.elim
      | iUint n => exact py.elim
      | iFloat n => exact py.elim
      | int l m =>
        by_cases hl : IntKind.u32 = l
        · subst hl
          obtain rfl : u = _ := hu
          obtain rfl : v = _ := hv
          rw [show SV.coll (.int .u32 b) (.int .u32 m) = three (decide (b < m)) (b == m) from coll_int_same _ _ _]
          exact colP_of (col_u32 b m w)
        · rw [show SV.coll (.int .u32 b) (.int l m) = byRank (.int .u32 b) (.int l m) from if_neg hl]
          exact cou_u32 b _ u v w hu hv ly (by cases l <;> simp [SV.rank, kindRank]) (by cases l <;> first | exact absurd rfl hl | simp [SV.ty, kindT])
      | _ => exact cou_u32 b _ u v w hu hv ly (by simp [SV.rank]) (by simp [SV.ty, kindT])
    case u64 =>
      cases y with
      | null => obtain rfl : v = _ := hv; obtain rfl : u = _ := hu; exact colP_of (con_u64 _ w)
      | iInt n => exact py.elim
      | iRune n => exact py.elim
      | iUint n => exact py.elim
      | iFloat n => exact py.elim
      | int l m =>
        by_cases hl : IntKind.u64 = l
        · subst hl
          obtain rfl : u = _ := hu
          obtain rfl : v = _ := hv
          rw [show SV.coll (.int .u64 b) (.int .u64 m) = three (decide (b < m)) (b == m) from coll_int_same _ _ _]
          exact colP_of (col_u64 b m w)
        · rw [show SV.coll (.int .u64 b) (.int l m) = byRank (.int .u64 b) (.int l m) from if_neg hl]
          exact cou_u64 b _ u v w hu hv ly (by cases l <;> simp [SV.rank, kindRank]) (by cases l <;> first | exact absurd rfl hl | simp [SV.ty, kindT])
      | _ => exact cou_u64 b _ u v w hu hv ly (by simp [SV.rank]) (by simp [SV.ty, kindT])


theorem order_self32 {x : Nat} (h : (Ieee.single.read x).isNaN = false) : Ieee.single.order x x = some .eq := by
  unfold Ieee.Format.order
  cases hd : Ieee.single.read x with
  | nan s t => rw [hd] at h; cases h
  | infinity s => cases s <;> rfl
  | number s m p =>
    simp only [Ieee.Datum.order]
    generalize Ieee.signed s m _ = z
    have : compare z z = Ordering.eq := by simp [compare, compareOfLessAndEq]
    rw [this]

theorem conc_sv {K : Kd} {n u : Int} {f : Nat} {s : ByteArray} (h : concB K n u f s = true) : (∀ y, SVof K n u f s y → y = toSV K n u f s) ∧ (toSV K n u f s).plain := by
  have hv := conc_valid h
  unfold concB at h
  simp only [Bool.and_eq_true, Bool.not_eq_true'] at h
  obtain ⟨⟨_, hi⟩, hn⟩ := h
  refine ⟨fun y hy => ?_, ?_⟩
  · unfold SVof at hy
    rw [if_neg (fun hh => by rw [hn] at hh; exact absurd hh.2 (by decide))] at hy
    exact hy
  · have hd : (Ieee.double.read f).isNaN = false := by rw [numB_nan] at hn; simpa using hn
    cases K with
    | f32 =>
      show Ieee.single.order _ _ = some .eq
      exact order_self32 (down_num hd)
    | f64 =>
      show Ieee.double.order _ _ = some .eq
      simpa [numB] using hn
    | iInt => exact absurd hi (by decide)
    | iRune => exact absurd hi (by decide)
    | iUint => exact absurd hi (by decide)
    | iFloat => exact absurd hi (by decide)
    | _ => trivial


end Go.Proofs.YtffgkocokkhahaaGreatDoor
