/-
  bytes.Compare of two blobs; ql.collate1 of two blobs. || ql.collate1 of any two values that are no literals and no NaN; impl.Collate, impl.Rank. PRINTED BY wip/tpl/gen_coc.py. || The order of two values is one of three numbers. || ql.collate of two lists of as many values, each of a type and a number. || A region that draws its order, whose operations only read old cells and whose callees lay new blocks alone: walked once. Of no program. || impl.CollateRows and impl.KeyCompare of two lists of as many values, each of a type and a number. || impl.ins, and where what it makes lies; data that stay as they are. || Pages: a count, elements side by side, room, two words behind. What an insertion, a move to a neighbour, a split make of one. Of no program. || Pages of the index's tree in memory.
-/
import Derived.Test.YtffgkocokkhahaaGreatDoorIxo01
import Derived.Test.YtffgkocokkhahaaGreatDoorIxo05
import Derived.Lib.BytesEntry
import Derived.Laws.Externs
import Derived.Test.YtffgkocokkhahaaGreatDoorIxo07
import Derived.Test.YtffgkocokkhahaaGreatDoorIxo08
import Derived.Test.YtffgkocokkhahaaGreatDoorIxo09
import Derived.Deep.RegionWith
import Derived.Deep.QuietTactic
import Derived.Below
import Derived.Deep.RegionHeld3

/- bytes.Compare of two blobs; ql.collate1 of two blobs. -/
namespace Go.Proofs.YtffgkocokkhahaaGreatDoor
open Go.RowKit

def cmpL (l m : List UInt8) : Int :=
  match (List.range (min l.length m.length)).find? fun i => l[i]! != m[i]! with
  | some i => if l[i]! < m[i]! then -1 else 1
  | none => if l.length < m.length then -1 else if l.length > m.length then 1 else 0

theorem ba_get (l : List UInt8) (i : Nat) : (⟨l.toArray⟩ : ByteArray)[i]! = l[i]! := by
  by_cases h : i < l.length
  · rw [getElem!_pos (⟨l.toArray⟩ : ByteArray) i (by show i < l.toArray.size; simpa using h), getElem!_pos l i h]
    rfl
  · rw [getElem!_neg (⟨l.toArray⟩ : ByteArray) i (by show ¬ i < l.toArray.size; simpa using h), getElem!_neg l i h]

theorem cmp_list (l m : List UInt8) : Extern.BytealgCompare.cmp ⟨l.toArray⟩ ⟨m.toArray⟩ = cmpL l m := by
  unfold Extern.BytealgCompare.cmp cmpL
  simp only [ba_get]
  rfl

theorem cmpL_cons (x y : UInt8) (l m : List UInt8) : cmpL (x :: l) (y :: m) = if x = y then cmpL l m else if x < y then -1 else 1 := by
  unfold cmpL
  rw [List.length_cons, List.length_cons, show min (l.length + 1) (m.length + 1) = min l.length m.length + 1 from by omega, List.range_succ_eq_map, List.find?_cons]
  by_cases h : x = y
  · subst h
    simp only [List.getElem!_cons_zero, bne_self_eq_false, if_true, List.find?_map, Function.comp_def, List.getElem!_cons_succ]
    cases (List.range (min l.length m.length)).find? (fun i => l[i]! != m[i]!) with
    | none =>
      simp only [Option.map_none]
      split <;> split <;> first | rfl | (split <;> split <;> first | rfl | omega) | omega
    | some i => simp
  · have hb : (x != y) = true := by simp [h]
    simp [hb, h]

theorem cmpL_ord : ∀ (l m : List UInt8), cmpL l m = bytesOrd l m
  | [], [] => by decide
  | [], y :: m => by simp [cmpL, bytesOrd, three, Op.bytesLess]
  | x :: l, [] => by simp [cmpL, bytesOrd, three, Op.bytesLess]
  | x :: l, y :: m => by
    rw [cmpL_cons, cmpL_ord l m]
    unfold bytesOrd
    by_cases h : x = y
    · subst h
      simp [Op.bytesLess]
    · simp only [Op.bytesLess]
      by_cases h2 : x < y
      · simp [h, h2, three]
      · simp [h, h2, three]

theorem run_xload (w : World) (l : List UInt8) (a : Addr) (h : ∀ j (hj : j < l.length), w.cell? (a.add j) = some (.int .u8 (l[j].toNat : Int))) :
    (Extern.Bytes.loadBytes a l.length .empty).run Tryz.prog w = .ok ⟨l.toArray⟩ w := by
  have hl := Lib.run_loadBytesX (P := Tryz.prog) w (l.map fun b => (b.toNat : Int)) a .empty (fun j x hj => by
    rw [List.getElem?_map] at hj
    cases hg : l[j]? with
    | none => rw [hg] at hj; cases hj
    | some b =>
      rw [hg] at hj
      simp only [Option.map_some, Option.some.injEq] at hj
      subst hj
      obtain ⟨hlt, rfl⟩ := List.getElem?_eq_some_iff.1 hg
      exact h j hlt)
  rw [List.length_map] at hl
  rw [hl]
  congr 1
  apply ByteArray.ext
  show (#[] : Array UInt8) ++ (Lib.bytesOf (l.map fun b => (b.toNat : Int))).toArray = l.toArray
  rw [show Lib.bytesOf (l.map fun b => (b.toNat : Int)) = l from by
    unfold Lib.bytesOf
    rw [List.map_map]
    refine (List.map_congr_left (g := id) (fun b _ => ?_)).trans (List.map_id l)
    simp]
  simp

theorem run_cmp (w : World) (b c : List UInt8) (a a' : Addr) (p p' : Nat) (h : ∀ j (hj : j < b.length), w.cell? (a.add j) = some (.int .u8 (b[j].toNat : Int))) (h' : ∀ j (hj : j < c.length), w.cell? (a'.add j) = some (.int .u8 (c[j].toNat : Int))) :
    (Extern.BytealgCompare.compare #[.slice (some a) b.length p, .slice (some a') c.length p']).run Tryz.prog w = .ok (.int .i64 (bytesOrd b c)) w := by
  have l1 := run_xload w b a h
  have l2 := run_xload w c a' h'
  change Sem.run Tryz.prog (do pure (goInt (Extern.BytealgCompare.cmp (← Extern.Bytes.bytesOf (.slice (some a) b.length p)) (← Extern.Bytes.bytesOf (.slice (some a') c.length p'))))) w = _
  simp only [Extern.Bytes.bytesOf, Sem.run_bind, Sem.run_pure, l1, l2, Result.andThen]
  rw [cmp_list, cmpL_ord]
  rfl

theorem run_compare (w : World) (b c : List UInt8) (a a' : Addr) (p p' : Nat) (h : ∀ j (hj : j < b.length), w.cell? (a.add j) = some (.int .u8 (b[j].toNat : Int))) (h' : ∀ j (hj : j < c.length), w.cell? (a'.add j) = some (.int .u8 (c[j].toNat : Int))) :
    (callFunc 129 #[.slice (some a) b.length p, .slice (some a') c.length p']).run Tryz.prog w = .ok (.value (.int .i64 (bytesOrd b c))) w := by
  rw [run_callFunc_extern Tryz.func129 (by kernel_rfl) (by kernel_rfl) (by kernel_rfl) (e := Extern.BytealgCompare.compare) (by kernel_rfl), run_cmp w b c a a' p p' h h']
  rfl

set_option maxRecDepth 100000 in
set_option maxHeartbeats 1000000 in
theorem compare_any (w : World) (b c : List UInt8) (a a' : Addr) (p p' : Nat) (h : Hid (∀ j (hj : j < b.length), w.cell? (a.add j) = some (.int .u8 (b[j].toNat : Int)))) (h' : Hid (∀ j (hj : j < c.length), w.cell? (a'.add j) = some (.int .u8 (c[j].toNat : Int)))) :
    Calls Tryz.prog 127 #[.slice (some a) b.length p, .slice (some a') c.length p'] w fun e w' => e = .returned (.int .i64 (bytesOrd b c)) ∧ w = w' := by
  have hf := run_compare w b c a a' p p' h.out h'.out
  go_enter Tryz.func127, Tryz.ntmps127
  go_wp2
  go_ret
  exact ⟨rfl, rfl⟩

set_option maxRecDepth 100000 in
set_option maxHeartbeats 1000000 in
theorem colz_blob (w : World) (b c : List UInt8) (a a' : Addr) (p p' : Nat) (h : Hid (∀ j (hj : j < b.length), w.cell? (a.add j) = some (.int .u8 (b[j].toNat : Int)))) (h' : Hid (∀ j (hj : j < c.length), w.cell? (a'.add j) = some (.int .u8 (c[j].toNat : Int)))) :
    Calls Tryz.prog 119 #[.iface 188 (.slice (some a) b.length p), .iface 188 (.slice (some a') c.length p')] w fun e w' => e = .returned (.int .i64 (bytesOrd b c)) ∧ w = w' := by
  go_enter Tryz.func119, Tryz.ntmps119
  go_wp2_with (go_at_call 127; refine (compare_any _ b c a a' p p' h h').mono ?_; rintro e w1 ⟨rfl, rfl⟩)
  go_ret
  exact ⟨rfl, rfl⟩

theorem col_blob (b c : List UInt8) (u v : Value) (w : World) (hu : Rep w (.blob b) u) (hv : Rep w (.blob c) v) :
    Calls Tryz.prog 119 #[u, v] w fun e w' => e = .returned (.int .i64 (bytesOrd b c)) ∧ Below w.heap.size w w' := by
  obtain ⟨a, p, rfl, _, h⟩ := hu
  obtain ⟨a', p', rfl, _, h'⟩ := hv
  exact (colz_blob w b c a a' p p' h h').mono fun _ _ ⟨h1, h2⟩ => ⟨h1, by subst h2; exact Below.refl _ _⟩

end Go.Proofs.YtffgkocokkhahaaGreatDoor

/- ql.collate1 of any two values that are no literals and no NaN; impl.Collate, impl.Rank. PRINTED BY wip/tpl/gen_coc.py. -/
namespace Go.Proofs.YtffgkocokkhahaaGreatDoor
open Go.RowKit

theorem below_al3 (w : World) (a b c : Obj) : Below w.heap.size w (((w.alloc a).alloc b).alloc c) := (((Below.refl _ _).alloc (Nat.le_refl _) _).alloc (by simp) _).alloc (by simp; omega) _

theorem coll_int_same (k : IntKind) (b m : Int) : SV.coll (.int k b) (.int k m) = three (decide (b < m)) (b == m) := by simp [SV.coll]

def ColP (c : Int) (w : World) (e : Ending) (w' : World) : Prop := e = .returned (.int .i64 c) ∧ Below w.heap.size w w'

theorem colP_of {c : Int} {u v : Value} {w : World} (h : Calls Tryz.prog 119 #[u, v] w fun e w' => e = .returned (.int .i64 c) ∧ w = w') : Calls Tryz.prog 119 #[u, v] w (ColP c w) :=
  h.mono fun _ _ ⟨h1, h2⟩ => ⟨h1, by subst h2; exact Below.refl _ _⟩

/-- A value that is not NULL, of a type that is not T. -/
theorem shape_nn {w : World} {y : SV} {v : Value} (h : Rep w y v) (hy : y.isLit = false) (h0 : y.rank ≠ 0) (T : TypeId) (hT : y.ty ≠ T) : ∃ V z, v = .iface V z ∧ V ≠ T ∧ V ≠ 197 ∧ V ≠ 198 ∧ V ≠ 199 ∧ V ≠ 200 := by
  rcases shape_not h hy T hT with rfl | h
  · cases y with
    | null => exact absurd rfl h0
    | blob l => obtain ⟨a, cap, h, _⟩ := h; cases h
    | _ => cases h
  · exact h

theorem plain_lit {x : SV} (h : x.plain) : x.isLit = false := by cases x <;> first | rfl | exact h.elim

theorem cou_bool (b : Bool) (y : SV) (u v : Value) (w : World) (hu : Rep w (SV.bool b) u) (hv : Rep w y v) (hy : y.isLit = false) (h0 : y.rank ≠ 0) (hT : y.ty ≠ 4) :
    Calls Tryz.prog 119 #[u, v] w (ColP (-1) w) := by
  have hd := diff_rep (SV.bool b) y u v w hu hv
  obtain ⟨V, z, rfl, b0, b1, b2, b3, b4⟩ := shape_nn hv hy h0 4 hT
  obtain rfl : u = _ := hu
  exact colP_of (cox_bool _ z V _ w hd b0 b1 b2 b3 b4)

theorem cou_f32 (b : Nat) (y : SV) (u v : Value) (w : World) (hu : Rep w (SV.f32 b) u) (hv : Rep w y v) (hy : y.isLit = false) (h0 : y.rank ≠ 0) (hT : y.ty ≠ 161) :
    Calls Tryz.prog 119 #[u, v] w (ColP (byRank (SV.f32 b) y) w) := by
  have hd := diff_rep (SV.f32 b) y u v w hu hv
  obtain ⟨V, z, rfl, b0, b1, b2, b3, b4⟩ := shape_nn hv hy h0 161 hT
  obtain rfl : u = _ := hu
  exact colP_of (cox_f32 _ z V _ w hd b0 b1 b2 b3 b4)

theorem cou_f64 (b : Nat) (y : SV) (u v : Value) (w : World) (hu : Rep w (SV.f64 b) u) (hv : Rep w y v) (hy : y.isLit = false) (h0 : y.rank ≠ 0) (hT : y.ty ≠ 55) :
    Calls Tryz.prog 119 #[u, v] w (ColP (byRank (SV.f64 b) y) w) := by
  have hd := diff_rep (SV.f64 b) y u v w hu hv
  obtain ⟨V, z, rfl, b0, b1, b2, b3, b4⟩ := shape_nn hv hy h0 55 hT
  obtain rfl : u = _ := hu
  exact colP_of (cox_f64 _ z V _ w hd b0 b1 b2 b3 b4)

theorem cou_str (b : ByteArray) (y : SV) (u v : Value) (w : World) (hu : Rep w (SV.str b) u) (hv : Rep w y v) (hy : y.isLit = false) (h0 : y.rank ≠ 0) (hT : y.ty ≠ 9) :
    Calls Tryz.prog 119 #[u, v] w (ColP (byRank (SV.str b) y) w) := by
  have hd := diff_rep (SV.str b) y u v w hu hv
  obtain ⟨V, z, rfl, b0, b1, b2, b3, b4⟩ := shape_nn hv hy h0 9 hT
  obtain rfl : u = _ := hu
  exact colP_of (cox_str _ z V _ w hd b0 b1 b2 b3 b4)

theorem cou_blob (b : List UInt8) (y : SV) (u v : Value) (w : World) (hu : Rep w (SV.blob b) u) (hv : Rep w y v) (hy : y.isLit = false) (h0 : y.rank ≠ 0) (hT : y.ty ≠ 188) :
    Calls Tryz.prog 119 #[u, v] w (ColP (byRank (SV.blob b) y) w) := by
  have hd := diff_rep (SV.blob b) y u v w hu hv
  obtain ⟨V, z, rfl, b0, b1, b2, b3, b4⟩ := shape_nn hv hy h0 188 hT
  obtain ⟨a, cap, rfl, _⟩ := hu
  exact colP_of (cox_blob _ z V _ w hd b0 b1 b2 b3 b4)

theorem cou_i8 (b : Int) (y : SV) (u v : Value) (w : World) (hu : Rep w (SV.int .i8 b) u) (hv : Rep w y v) (hy : y.isLit = false) (h0 : y.rank ≠ 0) (hT : y.ty ≠ (kindT .i8)) :
    Calls Tryz.prog 119 #[u, v] w (ColP (byRank (SV.int .i8 b) y) w) := by
  have hd := diff_rep (SV.int .i8 b) y u v w hu hv
  obtain ⟨V, z, rfl, b0, b1, b2, b3, b4⟩ := shape_nn hv hy h0 (kindT .i8) hT
  obtain rfl : u = _ := hu
  exact colP_of (cox_i8 _ z V _ w hd b0 b1 b2 b3 b4)

theorem cou_i16 (b : Int) (y : SV) (u v : Value) (w : World) (hu : Rep w (SV.int .i16 b) u) (hv : Rep w y v) (hy : y.isLit = false) (h0 : y.rank ≠ 0) (hT : y.ty ≠ (kindT .i16)) :
    Calls Tryz.prog 119 #[u, v] w (ColP (byRank (SV.int .i16 b) y) w) := by
  have hd := diff_rep (SV.int .i16 b) y u v w hu hv
  obtain ⟨V, z, rfl, b0, b1, b2, b3, b4⟩ := shape_nn hv hy h0 (kindT .i16) hT
  obtain rfl : u = _ := hu
  exact colP_of (cox_i16 _ z V _ w hd b0 b1 b2 b3 b4)

theorem cou_i32 (b : Int) (y : SV) (u v : Value) (w : World) (hu : Rep w (SV.int .i32 b) u) (hv : Rep w y v) (hy : y.isLit = false) (h0 : y.rank ≠ 0) (hT : y.ty ≠ (kindT .i32)) :
    Calls Tryz.prog 119 #[u, v] w (ColP (byRank (SV.int .i32 b) y) w) := by
  have hd := diff_rep (SV.int .i32 b) y u v w hu hv
  obtain ⟨V, z, rfl, b0, b1, b2, b3, b4⟩ := shape_nn hv hy h0 (kindT .i32) hT
  obtain rfl : u = _ := hu
  exact colP_of (cox_i32 _ z V _ w hd b0 b1 b2 b3 b4)

theorem cou_i64 (b : Int) (y : SV) (u v : Value) (w : World) (hu : Rep w (SV.int .i64 b) u) (hv : Rep w y v) (hy : y.isLit = false) (h0 : y.rank ≠ 0) (hT : y.ty ≠ (kindT .i64)) :
    Calls Tryz.prog 119 #[u, v] w (ColP (byRank (SV.int .i64 b) y) w) := by
  have hd := diff_rep (SV.int .i64 b) y u v w hu hv
  obtain ⟨V, z, rfl, b0, b1, b2, b3, b4⟩ := shape_nn hv hy h0 (kindT .i64) hT
  obtain rfl : u = _ := hu
  exact colP_of (cox_i64 _ z V _ w hd b0 b1 b2 b3 b4)

theorem cou_u8 (b : Int) (y : SV) (u v : Value) (w : World) (hu : Rep w (SV.int .u8 b) u) (hv : Rep w y v) (hy : y.isLit = false) (h0 : y.rank ≠ 0) (hT : y.ty ≠ (kindT .u8)) :
    Calls Tryz.prog 119 #[u, v] w (ColP (byRank (SV.int .u8 b) y) w) := by
  have hd := diff_rep (SV.int .u8 b) y u v w hu hv
  obtain ⟨V, z, rfl, b0, b1, b2, b3, b4⟩ := shape_nn hv hy h0 (kindT .u8) hT
  obtain rfl : u = _ := hu
  exact colP_of (cox_u8 _ z V _ w hd b0 b1 b2 b3 b4)

theorem cou_u16 (b : Int) (y : SV) (u v : Value) (w : World) (hu : Rep w (SV.int .u16 b) u) (hv : Rep w y v) (hy : y.isLit = false) (h0 : y.rank ≠ 0) (hT : y.ty ≠ (kindT .u16)) :
    Calls Tryz.prog 119 #[u, v] w (ColP (byRank (SV.int .u16 b) y) w) := by
  have hd := diff_rep (SV.int .u16 b) y u v w hu hv
  obtain ⟨V, z, rfl, b0, b1, b2, b3, b4⟩ := shape_nn hv hy h0 (kindT .u16) hT
  obtain rfl : u = _ := hu
  exact colP_of (cox_u16 _ z V _ w hd b0 b1 b2 b3 b4)

theorem cou_u32 (b : Int) (y : SV) (u v : Value) (w : World) (hu : Rep w (SV.int .u32 b) u) (hv : Rep w y v) (hy : y.isLit = false) (h0 : y.rank ≠ 0) (hT : y.ty ≠ (kindT .u32)) :
    Calls Tryz.prog 119 #[u, v] w (ColP (byRank (SV.int .u32 b) y) w) := by
  have hd := diff_rep (SV.int .u32 b) y u v w hu hv
  obtain ⟨V, z, rfl, b0, b1, b2, b3, b4⟩ := shape_nn hv hy h0 (kindT .u32) hT
  obtain rfl : u = _ := hu
  exact colP_of (cox_u32 _ z V _ w hd b0 b1 b2 b3 b4)

theorem cou_u64 (b : Int) (y : SV) (u v : Value) (w : World) (hu : Rep w (SV.int .u64 b) u) (hv : Rep w y v) (hy : y.isLit = false) (h0 : y.rank ≠ 0) (hT : y.ty ≠ (kindT .u64)) :
    Calls Tryz.prog 119 #[u, v] w (ColP (byRank (SV.int .u64 b) y) w) := by
  have hd := diff_rep (SV.int .u64 b) y u v w hu hv
  obtain ⟨V, z, rfl, b0, b1, b2, b3, b4⟩ := shape_nn hv hy h0 (kindT .u64) hT
  obtain rfl : u = _ := hu
  exact colP_of (cox_u64 _ z V _ w hd b0 b1 b2 b3 b4)

theorem coll1_any (x y : SV) (px : x.plain) (py : y.plain) (u v : Value) (w : World) (hu : Rep w x u) (hv : Rep w y v) :
    Calls Tryz.prog 119 #[u, v] w (ColP (x.coll y) w) := by
  have ly := plain_lit py
  cases x with
  | iInt n => exact px.elim
  | iRune n => exact px.elim
  | iUint n => exact px.elim
  | iFloat n => exact px.elim
  | null =>
    obtain rfl : u = _ := hu
    cases y with
    | null => obtain rfl : v = _ := hv; exact colP_of (con_null w)
    | blob l => obtain ⟨a, cap, rfl, _⟩ := hv; exact colP_of (cox_null _ _ w)
    | iInt n => exact py.elim
    | iRune n => exact py.elim
    | iUint n => exact py.elim
    | iFloat n => exact py.elim
    | _ => obtain rfl : v = _ := hv; exact colP_of (cox_null _ _ w)
  | bool b =>
    cases y with
    | null => obtain rfl : v = _ := hv; obtain rfl : u = _ := hu; exact colP_of (con_bool _ w)
    | iInt n => exact py.elim
    | iRune n => exact py.elim
    | iUint n => exact py.elim
    | iFloat n => exact py.elim
    | bool c => obtain rfl : u = _ := hu; obtain rfl : v = _ := hv; exact colP_of (col_bool b c w)
    | int k m => exact cou_bool b _ u v w hu hv ly (by cases k <;> simp [SV.rank, kindRank]) (by cases k <;> simp [SV.ty, kindT])
    | _ => exact cou_bool b _ u v w hu hv ly (by simp [SV.rank]) (by simp [SV.ty])
  | f32 b =>
    cases y with
    | null => obtain rfl : v = _ := hv; obtain rfl : u = _ := hu; exact colP_of (con_f32 _ w)
    | iInt n => exact py.elim
    | iRune n => exact py.elim
    | iUint n => exact py.elim
    | iFloat n => exact py.elim
    | f32 c => obtain rfl : u = _ := hu; obtain rfl : v = _ := hv; exact colP_of (col_f32 b c w)
    | int k m => exact cou_f32 b _ u v w hu hv ly (by cases k <;> simp [SV.rank, kindRank]) (by cases k <;> simp [SV.ty, kindT])
    | _ => exact cou_f32 b _ u v w hu hv ly (by simp [SV.rank]) (by simp [SV.ty])
  | f64 b =>
    cases y with
    | null => obtain rfl : v = _ := hv; obtain rfl : u = _ := hu; exact colP_of (con_f64 _ w)
    | iInt n => exact py.elim
    | iRune n => exact py.elim
    | iUint n => exact py.elim
    | iFloat n => exact py.elim
    | f64 c => obtain rfl : u = _ := hu; obtain rfl : v = _ := hv; exact colP_of (col_f64 b c w)
    | int k m => exact cou_f64 b _ u v w hu hv ly (by cases k <;> simp [SV.rank, kindRank]) (by cases k <;> simp [SV.ty, kindT])
    | _ => exact cou_f64 b _ u v w hu hv ly (by simp [SV.rank]) (by simp [SV.ty])
  | str b =>
    cases y with
    | null => obtain rfl : v = _ := hv; obtain rfl : u = _ := hu; exact colP_of (con_str _ w)
    | iInt n => exact py.elim
    | iRune n => exact py.elim
    | iUint n => exact py.elim
    | iFloat n => exact py.elim
    | str c => obtain rfl : u = _ := hu; obtain rfl : v = _ := hv; exact colP_of (col_str b c w)
    | int k m => exact cou_str b _ u v w hu hv ly (by cases k <;> simp [SV.rank, kindRank]) (by cases k <;> simp [SV.ty, kindT])
    | _ => exact cou_str b _ u v w hu hv ly (by simp [SV.rank]) (by simp [SV.ty])
  | blob b =>
    cases y with
    | null => obtain rfl : v = _ := hv; obtain ⟨a, cap, rfl, _⟩ := hu; exact colP_of (con_blob _ w)
    | iInt n => exact py.elim
    | iRune n => exact py.elim
    | iUint n => exact py.elim
    | iFloat n => exact py.elim
    | blob c => exact col_blob b c u v w hu hv
    | int k m => exact cou_blob b _ u v w hu hv ly (by cases k <;> simp [SV.rank, kindRank]) (by cases k <;> simp [SV.ty, kindT])
    | _ => exact cou_blob b _ u v w hu hv ly (by simp [SV.rank]) (by simp [SV.ty])
  | int k b =>
    cases k
    case i8 =>
      cases y with
      | null => obtain rfl : v = _ := hv; obtain rfl : u = _ := hu; exact colP_of (con_i8 _ w)
      | iInt n => exact py.elim
      | iRune n => exact py.elim
      | iUint n => exact py.elim
      | iFloat n => exact py.elim
      | int l m =>
        by_cases hl : IntKind.i8 = l
        · subst hl
          obtain rfl : u = _ := hu
          obtain rfl : v = _ := hv
          rw [show SV.coll (.int .i8 b) (.int .i8 m) = three (decide (b < m)) (b == m) from coll_int_same _ _ _]
          exact colP_of (col_i8 b m w)
        · rw [show SV.coll (.int .i8 b) (.int l m) = byRank (.int .i8 b) (.int l m) from if_neg hl]
          exact cou_i8 b _ u v w hu hv ly (by cases l <;> simp [SV.rank, kindRank]) (by cases l <;> first | exact absurd rfl hl | simp [SV.ty, kindT])
      | _ => exact cou_i8 b _ u v w hu hv ly (by simp [SV.rank]) (by simp [SV.ty, kindT])
    case i16 =>
      cases y with
      | null => obtain rfl : v = _ := hv; obtain rfl : u = _ := hu; exact colP_of (con_i16 _ w)
      | iInt n => exact py.elim
      | iRune n => exact py.elim
      | iUint n => exact py.elim
      | iFloat n => exact py.elim
      | int l m =>
        by_cases hl : IntKind.i16 = l
        · subst hl
          obtain rfl : u = _ := hu
          obtain rfl : v = _ := hv
          rw [show SV.coll (.int .i16 b) (.int .i16 m) = three (decide (b < m)) (b == m) from coll_int_same _ _ _]
          exact colP_of (col_i16 b m w)
        · rw [show SV.coll (.int .i16 b) (.int l m) = byRank (.int .i16 b) (.int l m) from if_neg hl]
          exact cou_i16 b _ u v w hu hv ly (by cases l <;> simp [SV.rank, kindRank]) (by cases l <;> first | exact absurd rfl hl | simp [SV.ty, kindT])
      | _ => exact cou_i16 b _ u v w hu hv ly (by simp [SV.rank]) (by simp [SV.ty, kindT])
    case i32 =>
      cases y with
      | null => obtain rfl : v = _ := hv; obtain rfl : u = _ := hu; exact colP_of (con_i32 _ w)
      | iInt n => exact py.elim
      | iRune n => exact py.elim
      | iUint n => exact py.elim
      | iFloat n => exact py.elim
      | int l m =>
        by_cases hl : IntKind.i32 = l
        · subst hl
          obtain rfl : u = _ := hu
          obtain rfl : v = _ := hv
          rw [show SV.coll (.int .i32 b) (.int .i32 m) = three (decide (b < m)) (b == m) from coll_int_same _ _ _]
          exact colP_of (col_i32 b m w)
        · rw [show SV.coll (.int .i32 b) (.int l m) = byRank (.int .i32 b) (.int l m) from if_neg hl]
          exact cou_i32 b _ u v w hu hv ly (by cases l <;> simp [SV.rank, kindRank]) (by cases l <;> first | exact absurd rfl hl | simp [SV.ty, kindT])
      | _ => exact cou_i32 b _ u v w hu hv ly (by simp [SV.rank]) (by simp [SV.ty, kindT])
    case i64 =>
      cases y with
      | null => obtain rfl : v = _ := hv; obtain rfl : u = _ := hu; exact colP_of (con_i64 _ w)
      | iInt n => exact py.elim
      | iRune n => exact py.elim
      | iUint n => exact py.elim
      | iFloat n => exact py.elim
      | int l m =>
        by_cases hl : IntKind.i64 = l
        · subst hl
          obtain rfl : u = _ := hu
          obtain rfl : v = _ := hv
          rw [show SV.coll (.int .i64 b) (.int .i64 m) = three (decide (b < m)) (b == m) from coll_int_same _ _ _]
          exact colP_of (col_i64 b m w)
        · rw [show SV.coll (.int .i64 b) (.int l m) = byRank (.int .i64 b) (.int l m) from if_neg hl]
          exact cou_i64 b _ u v w hu hv ly (by cases l <;> simp [SV.rank, kindRank]) (by cases l <;> first | exact absurd rfl hl | simp [SV.ty, kindT])
      | _ => exact cou_i64 b _ u v w hu hv ly (by simp [SV.rank]) (by simp [SV.ty, kindT])
    case u8 =>
      cases y with
      | null => obtain rfl : v = _ := hv; obtain rfl : u = _ := hu; exact colP_of (con_u8 _ w)
      | iInt n => exact py.elim
      | iRune n => exact py.elim
      | iUint n => exact py.elim
      | iFloat n => exact py.elim
      | int l m =>
        by_cases hl : IntKind.u8 = l
        · subst hl
          obtain rfl : u = _ := hu
          obtain rfl : v = _ := hv
          rw [show SV.coll (.int .u8 b) (.int .u8 m) = three (decide (b < m)) (b == m) from coll_int_same _ _ _]
          exact colP_of (col_u8 b m w)
        · rw [show SV.coll (.int .u8 b) (.int l m) = byRank (.int .u8 b) (.int l m) from if_neg hl]
          exact cou_u8 b _ u v w hu hv ly (by cases l <;> simp [SV.rank, kindRank]) (by cases l <;> first | exact absurd rfl hl | simp [SV.ty, kindT])
      | _ => exact cou_u8 b _ u v w hu hv ly (by simp [SV.rank]) (by simp [SV.ty, kindT])
    case u16 =>
      cases y with
      | null => obtain rfl : v = _ := hv; obtain rfl : u = _ := hu; exact colP_of (con_u16 _ w)
      | iInt n => exact py.elim
      | iRune n => exact py.elim
      | iUint n => exact py.elim
      | iFloat n => exact py.elim
      | int l m =>
        by_cases hl : IntKind.u16 = l
        · subst hl
          obtain rfl : u = _ := hu
          obtain rfl : v = _ := hv
          rw [show SV.coll (.int .u16 b) (.int .u16 m) = three (decide (b < m)) (b == m) from coll_int_same _ _ _]
          exact colP_of (col_u16 b m w)
        · rw [show SV.coll (.int .u16 b) (.int l m) = byRank (.int .u16 b) (.int l m) from if_neg hl]
          exact cou_u16 b _ u v w hu hv ly (by cases l <;> simp [SV.rank, kindRank]) (by cases l <;> first | exact absurd rfl hl | simp [SV.ty, kindT])
      | _ => exact cou_u16 b _ u v w hu hv ly (by simp [SV.rank]) (by simp [SV.ty, kindT])
    case u32 =>
      cases y with
      | null => obtain rfl : v = _ := hv; obtain rfl : u = _ := hu; exact colP_of (con_u32 _ w)
      | iInt n => exact py.elim
      | iRune n => exact py.elim
      | iUint n => exact py.elim
      | iFloat n => exact py.elim
      | int l m =>
        by_cases hl : IntKind.u32 = l
        · subst hl
          obtain rfl : u = _ := hu
          obtain rfl : v = _ := hv
          rw [show SV.coll (.int .u32 b) (.int .u32 m) = three (decide (b < m)) (b == m) from coll_int_same _ _ _]
          exact colP_of (col_u32 b m w)
        · rw [show SV.coll (.int .u32 b) (.int l m) = byRank (.int .u32 b) (.int l m) from if_neg hl]
          exact cou_u32 b _ u v w hu hv ly (by cases l <;> simp [SV.rank, kindRank]) (by cases l <;> first | exact absurd rfl hl | simp [SV.ty, kindT])
      | _ => exact cou_u32 b _ u v w hu hv ly (by simp [SV.rank]) (by simp [SV.ty, kindT])
    case u64 =>
      cases y with
      | null => obtain rfl : v = _ := hv; obtain rfl : u = _ := hu; exact colP_of (con_u64 _ w)
      | iInt n => exact py.elim
      | iRune n => exact py.elim
      | iUint n => exact py.elim
      | iFloat n => exact py.elim
      | int l m =>
        by_cases hl : IntKind.u64 = l
        · subst hl
          obtain rfl : u = _ := hu
          obtain rfl : v = _ := hv
          rw [show SV.coll (.int .u64 b) (.int .u64 m) = three (decide (b < m)) (b == m) from coll_int_same _ _ _]
          exact colP_of (col_u64 b m w)
        · rw [show SV.coll (.int .u64 b) (.int l m) = byRank (.int .u64 b) (.int l m) from if_neg hl]
          exact cou_u64 b _ u v w hu hv ly (by cases l <;> simp [SV.rank, kindRank]) (by cases l <;> first | exact absurd rfl hl | simp [SV.ty, kindT])
      | _ => exact cou_u64 b _ u v w hu hv ly (by simp [SV.rank]) (by simp [SV.ty, kindT])


theorem order_self32 {x : Nat} (h : (Ieee.single.read x).isNaN = false) : Ieee.single.order x x = some .eq := by
  unfold Ieee.Format.order
  cases hd : Ieee.single.read x with
  | nan s t => rw [hd] at h; cases h
  | infinity s => cases s <;> rfl
  | number s m p =>
    simp only [Ieee.Datum.order]
    generalize Ieee.signed s m _ = z
    have : compare z z = Ordering.eq := by simp [compare, compareOfLessAndEq]
    rw [this]

theorem conc_sv {K : Kd} {n u : Int} {f : Nat} {s : ByteArray} (h : concB K n u f s = true) : (∀ y, SVof K n u f s y → y = toSV K n u f s) ∧ (toSV K n u f s).plain := by
  have hv := conc_valid h
  unfold concB at h
  simp only [Bool.and_eq_true, Bool.not_eq_true'] at h
  obtain ⟨⟨_, hi⟩, hn⟩ := h
  refine ⟨fun y hy => ?_, ?_⟩
  · unfold SVof at hy
    rw [if_neg (fun hh => by rw [hn] at hh; exact absurd hh.2 (by decide))] at hy
    exact hy
  · have hd : (Ieee.double.read f).isNaN = false := by rw [numB_nan] at hn; simpa using hn
    cases K with
    | f32 =>
      show Ieee.single.order _ _ = some .eq
      exact order_self32 (down_num hd)
    | f64 =>
      show Ieee.double.order _ _ = some .eq
      simpa [numB] using hn
    | iInt => exact absurd hi (by decide)
    | iRune => exact absurd hi (by decide)
    | iUint => exact absurd hi (by decide)
    | iFloat => exact absurd hi (by decide)
    | _ => trivial


end Go.Proofs.YtffgkocokkhahaaGreatDoor

/- The order of two values is one of three numbers. -/
namespace Go.Proofs.YtffgkocokkhahaaGreatDoor

theorem coll_three (x y : SV) (px : x.plain) (py : y.plain) : x.coll y = -1 ∨ x.coll y = 0 ∨ x.coll y = 1 := by
  rw [coll_lex px py]
  have hz : bytesOrd x.text y.text = -1 ∨ bytesOrd x.text y.text = 0 ∨ bytesOrd x.text y.text = 1 := by
    rcases bytesOrd_cases x.text y.text with ⟨h, _⟩ | ⟨h, _⟩ | ⟨h, _⟩ <;> simp [h]
  unfold SV.lex
  generalize bytesOrd x.text y.text = z at *
  repeat' split
  all_goals omega

end Go.Proofs.YtffgkocokkhahaaGreatDoor

/- ql.collate of two lists of as many values, each of a type and a number. -/
namespace Go.Proofs.YtffgkocokkhahaaGreatDoor
open Go.RowKit

def VV.sv (x : VV) : SV := toSV (Kd.of x.k.toList) x.n x.u x.f x.s

/-- The first order that is found. -/
def collV : List VV → List VV → Int
  | x :: l, y :: m => if x.sv.coll y.sv = 0 then collV l m else x.sv.coll y.sv
  | _, _ => 0

theorem collV_at : ∀ (k : Nat) (l m : List VV) (x y : VV), (∀ (j : Nat) (x y : VV), j < k → l[j]? = some x → m[j]? = some y → x.sv.coll y.sv = 0) → l[k]? = some x → m[k]? = some y → x.sv.coll y.sv ≠ 0 → collV l m = x.sv.coll y.sv
  | _, [], _, _, _, _, hx, _, _ => by simp at hx
  | _, _ :: _, [], _, _, _, _, hy, _ => by simp at hy
  | 0, a :: l, b :: m, x, y, _, hx, hy, hne => by
    obtain rfl : a = x := by simpa using hx
    obtain rfl : b = y := by simpa using hy
    rw [collV, if_neg hne]
  | k + 1, a :: l, b :: m, x, y, hz, hx, hy, hne => by
    rw [collV, if_pos (hz 0 a b (by omega) rfl rfl)]
    exact collV_at k l m x y (fun j x y hj hx hy => hz (j + 1) x y (by omega) (by simpa using hx) (by simpa using hy)) (by simpa using hx) (by simpa using hy) hne

theorem collV_end : ∀ (l m : List VV), (∀ (j : Nat) (x y : VV), l[j]? = some x → m[j]? = some y → x.sv.coll y.sv = 0) → collV l m = 0
  | [], _, _ => rfl
  | _ :: _, [], _ => rfl
  | a :: l, b :: m, hz => by
    rw [collV, if_pos (hz 0 a b rfl rfl)]
    exact collV_end l m (fun j x y hx hy => hz (j + 1) x y (by simpa using hx) (by simpa using hy))

theorem rep_conc {w : World} {x : VV} {y : SV} {v : Value} (hc : x.conc = true) (hi : x.is y) (h : Rep w y v) : Rep w x.sv v ∧ x.sv.plain := by
  obtain ⟨h1, h2⟩ := conc_sv hc
  obtain rfl := h1 y hi
  exact ⟨h, h2⟩

set_option maxHeartbeats 1000000 in
theorem collate_none (A B : Option Addr) (c d : Nat) (w : World) : Calls Tryz.prog 96 #[.slice A 0 c, .slice B 0 d] w (ColP 0 w) := by
  go_enter Tryz.func96, Tryz.ntmps96
  go_wp2
  go_ret
  exact ⟨rfl, Below.refl _ _⟩

set_option maxHeartbeats 1000000 in
theorem collate_some (l m : List VV) (A B : Option Addr) (n c d : Nat) (vs us : List Value) (hn : 0 < n) (hl : l.length = n) (hm : m.length = n) (hmax : n ≤ 2147483647) (w : World)
    (hA : Reads w w.heap.size 1 A n vs) (hB : Reads w w.heap.size 1 B n us) (hV : RepK w l n vs) (hU : RepK w m n us)
    (hcl : ∀ (j : Nat) (x : VV), l[j]? = some x → x.conc = true) (hcm : ∀ (j : Nat) (x : VV), m[j]? = some x → x.conc = true) :
    Calls Tryz.prog 96 #[.slice A n c, .slice B n d] w (ColP (collV l m) w) := by
  have HA := Lib.hid hA
  have HB := Lib.hid hB
  have HV := Lib.hid hV
  have HU := Lib.hid hU
  have HL := Lib.hid hl
  have HM := Lib.hid hm
  have HCL := Lib.hid hcl
  have HCM := Lib.hid hcm
  clear hA hB hV hU hl hm hcl hcm
  have hn0 : ((n : Int) == 0) = false := by simp; omega
  have hn1 : ((n : Int) != 0) = true := by simp; omega
  go_enter Tryz.func96, Tryz.ntmps96
  go_wp2
  go_loopw [4, 44] (fun r i wr => ∃ k : Nat, k ≤ n ∧ r = .int .i64 1 ∧ i = .int .i64 k ∧ Below w.heap.size w wr ∧ ∀ (j : Nat) (x y : VV), j < k → l[j]? = some x → m[j]? = some y → x.sv.coll y.sv = 0) (fun _ i _ => n - (intOf i).toNat)
  case atStart => exact ⟨0, by omega, rfl, rfl, Below.refl _ _, fun _ _ _ h => by omega⟩
  case round =>
    obtain ⟨k, hk, rfl, rfl, hb, hall⟩ := hrel
    have HZ := Lib.hid hall
    have HBw := Lib.hid hb
    have hs := hb.size
    clear hall
    by_cases hlt : k < n
    · obtain ⟨x, hx⟩ : ∃ x, l[k]? = some x := ⟨_, List.getElem?_eq_getElem (by rw [HL.out]; exact hlt)⟩
      obtain ⟨y, hy⟩ : ∃ y, m[k]? = some y := ⟨_, List.getElem?_eq_getElem (by rw [HM.out]; exact hlt)⟩
      obtain ⟨ad, u, rfl, hbu, hu, hcu⟩ := (HA.out.below hb).at_ hlt
      obtain ⟨bd, v, rfl, hbv, hv, hcv⟩ := (HB.out.below hb).at_ hlt
      obtain ⟨x', hi1, hr1⟩ := (HV.out.below hb).2 k x u hx hu
      obtain ⟨y', hi2, hr2⟩ := (HU.out.below hb).2 k y v hy hv
      obtain ⟨hr1, hp1⟩ := rep_conc (HCL.out k x hx) hi1 hr1
      obtain ⟨hr2, hp2⟩ := rep_conc (HCM.out k y hy) hi2 hr2
      have HC := Lib.hid (fun W (hW : Below wr.heap.size wr W) => coll1_any x.sv y.sv hp1 hp2 u v W (hr1.below hW) (hr2.below hW))
      have HX := Lib.hid hx
      have HY := Lib.hid hy
      have HT := Lib.hid (coll_three x.sv y.sv hp1 hp2)
      have HE := Lib.hid (fun h => collV_at k l m x y HZ.out hx hy h)
      clear hx hy hu hv hi1 hi2 hr1 hr2 hp1 hp2 hb
      obtain ⟨cc, hcc⟩ : ∃ cc, cc = x.sv.coll y.sv := ⟨_, rfl⟩
      rw [← hcc] at HC HT HE
      have HCC := Lib.hid hcc
      clear hcc
      cases hz : (cc == 0) with
      | true =>
        obtain rfl : cc = 0 := by simpa using hz
        go_wp2_with (go_at_call 119; refine (HC.out _ (Below.refl _ _)).mono ?_; rintro e w1 ⟨rfl, hb1⟩)
        refine ⟨⟨k + 1, by omega, rfl, by push_cast; rfl, up_below' HBw.out hb1, fun j a b hj ha hb => ?_⟩, by simp [intOf]; omega⟩
        rcases Nat.lt_or_ge j k with h | h
        · exact HZ.out j a b h ha hb
        · obtain rfl : j = k := by omega
          obtain rfl : a = x := Option.some.inj (ha.symm.trans HX.out)
          obtain rfl : b = y := Option.some.inj (hb.symm.trans HY.out)
          exact HCC.out.symm
      | false =>
        have hz2 : (cc != 0) = true := by simpa using hz
        have hv := HE.out (by simpa using hz)
        have HVV := Lib.hid hv
        clear hv
        rcases HT.out with rfl | rfl | rfl
        · go_wp2_with (go_at_call 119; refine (HC.out _ (Below.refl _ _)).mono ?_; rintro e w1 ⟨rfl, hb1⟩)
          go_ret
          exact ⟨by rw [HVV.out]; rfl, up_below' HBw.out hb1⟩
        · cases hz
        · go_wp2_with (go_at_call 119; refine (HC.out _ (Below.refl _ _)).mono ?_; rintro e w1 ⟨rfl, hb1⟩)
          go_ret
          exact ⟨by rw [HVV.out]; rfl, up_below' HBw.out hb1⟩
    · have hke : k = n := by omega
      subst hke
      have he := collV_end l m (fun j x y hx hy => HZ.out j x y (by rw [← HL.out]; exact (List.getElem?_eq_some_iff.1 hx).1) hx hy)
      have HVV := Lib.hid he
      clear he
      go_wp2
      go_ret
      exact ⟨by rw [HVV.out]; rfl, hb⟩

end Go.Proofs.YtffgkocokkhahaaGreatDoor

/- A region that draws its order, whose operations only read old cells and whose callees lay new blocks alone: walked once. Of no program. -/
namespace Go.Proofs.YtffgkocokkhahaaGreatDoor
open Go.RowKit

/-- A world in which everything that W has is as it is in W. -/
structure BW (W : World) where
  w : World
  h : Below W.heap.size W w

instance (W : World) : Inhabited (BW W) := ⟨⟨W, Below.refl _ _⟩⟩

theorem wp_region_bw {P : Program} {id : Nat} {Q : Exit → Act → World → Prop} {a : Act} {W : World} {l : List Oper} (hm : P.follows .mixedOrders = true) (hB : Region.lexB .any l.toArray = true)
    (h : wpQuiet P l.toArray (fun w' => ∃ p : BW W, w' = p.w) (fun a' => ∀ w', (∃ p : BW W, w' = p.w) → Q .normal a' w') l a) : (Code.region id l.toArray true).wp P Q a W :=
  wp_region_quiet (C := fun w' => ∃ p : BW W, w' = p.w) hm hB ⟨⟨_, (Below.refl _ _).drew⟩, rfl⟩ (by simpa using h)

@[go_sem] theorem BW.cell {W : World} (p : BW W) (b o : Nat) (hb : b < W.heap.size) : p.w.cell? ⟨b, o, none⟩ = W.cell? ⟨b, o, none⟩ := p.h.cell (p := ⟨b, o, none⟩) hb
@[go_sem] theorem BW.frozen {W : World} (p : BW W) (b o : Nat) (hb : b < W.heap.size) : p.w.frozen? ⟨b, o, none⟩ = W.frozen? ⟨b, o, none⟩ := p.h.frozen (p := ⟨b, o, none⟩) hb

theorem bw_of {P : Program} {f : FuncId} {args : Array Value} {W : World} {p : BW W} {v : Value}
    (h : Calls P f args p.w fun e w' => e = .returned v ∧ Below p.w.heap.size p.w w') : Calls P f args p.w fun e w'' => e = .returned v ∧ ∃ q : BW W, w'' = q.w :=
  h.mono fun _ _ ⟨he, hb⟩ => ⟨he, ⟨_, p.h.trans (hb.mono p.h.size)⟩, rfl⟩

end Go.Proofs.YtffgkocokkhahaaGreatDoor

/- impl.CollateRows and impl.KeyCompare of two lists of as many values, each of a type and a number. -/
namespace Go.Proofs.YtffgkocokkhahaaGreatDoor
open Go.RowKit

/-- A list of values that are each of a type and a number. -/
def ConcL (l : List VV) : Prop := ∀ (j : Nat) (x : VV), l[j]? = some x → x.conc = true ∧ Rng x.n x.u x.f

theorem ConcL.good {l : List VV} (h : ConcL l) : ∀ (j : Nat) (x : VV), l[j]? = some x → x.good := fun j x hx => ⟨(h j x hx).2, conc_valid (h j x hx).1⟩

/-- A list of values as the program has it. -/
def Ins (w : World) (l : List VV) (v : Value) : Prop := ∃ A c vs, v = .slice A l.length c ∧ Reads w w.heap.size 1 A l.length vs ∧ RepK w l l.length vs
theorem Ins.below {w w' : World} {l : List VV} {v : Value} (h : Ins w l v) (hb : Below w.heap.size w w') : Ins w' l v := by
  obtain ⟨A, c, vs, h1, h2, h3⟩ := h
  exact ⟨A, c, vs, h1, h2.below hb, h3.below hb⟩
def InsP (l : List VV) (w : World) (e : Ending) (w' : World) : Prop := ∃ v, e = .returned v ∧ Ins w' l v ∧ Below w.heap.size w w'
theorem ins_v (l : List VV) (A : Option Addr) (c : Nat) (w : World) (hl : LAt w A l) (hg : ConcL l) (hm : l.length ≤ 2147483647) : Calls Tryz.prog 39 #[.slice A l.length c] w (InsP l w) :=
  (ins_any l A c w hl hg.good hm).mono fun _ _ ⟨A', c', vs, he, h1, h2, hb⟩ => ⟨_, he, ⟨A', c', vs, rfl, h1, h2⟩, hb⟩

theorem collate_any (l m : List VV) (hlm : l.length = m.length) (hm : l.length ≤ 2147483647) (hl : ConcL l) (hc : ConcL m) (u v : Value) (w : World) (hu : Ins w l u) (hv : Ins w m v) :
    Calls Tryz.prog 96 #[u, v] w (ColP (collV l m) w) := by
  obtain ⟨A, c, vs, rfl, h1, h2⟩ := hu
  obtain ⟨B, d, us, rfl, h3, h4⟩ := hv
  rw [← hlm] at h3 h4 ⊢
  rcases Nat.eq_zero_or_pos l.length with h0 | h0
  · have e : collV l m = 0 := by
      rw [List.eq_nil_of_length_eq_zero h0]
      rfl
    rw [e, h0]
    exact collate_none A B c d w
  · exact collate_some l m A B l.length c d vs us h0 rfl hlm.symm hm w h1 h3 h2 h4 (fun j x hx => (hl j x hx).1) (fun j x hx => (hc j x hx).1)

set_option maxHeartbeats 400000 in
theorem zzCollate_any (c : Int) (u v : Value) (w : World) (H : Hid (Calls Tryz.prog 96 #[u, v] w (ColP c w))) : Calls Tryz.prog 75 #[u, v] w (ColP c w) := by
  go_enter Tryz.func75, Tryz.ntmps75
  go_wp2_with (go_at_call 96; refine H.out.mono ?_; rintro e w1 ⟨rfl, hb1⟩)
  go_ret
  exact ⟨rfl, hb1⟩

set_option maxHeartbeats 1000000 in
theorem implRows_any (l m : List VV) (A B : Option Addr) (c d : Nat) (hlm : l.length = m.length) (hm : l.length ≤ 2147483647) (hl : ConcL l) (hc : ConcL m) (w : World) (hA : LAt w A l) (hB : LAt w B m) :
    Calls Tryz.prog 48 #[.slice A l.length c, .slice B m.length d, .bool false] w (ColP (collV l m) w) := by
  have HA := Lib.hid (fun w' (h : Below w.heap.size w w') => ins_v l A c w' (hA.below h) hl hm)
  have HB := Lib.hid (fun w' (h : Below w.heap.size w w') => ins_v m B d w' (hB.below h) hc (by rw [← hlm]; exact hm))
  have HC := Lib.hid (fun w' u v hu hv => zzCollate_any _ u v w' (collate_any l m hlm hm hl hc u v w' hu hv))
  clear hA hB hlm hm hl hc
  go_enter Tryz.func48, Tryz.ntmps48
  go_wp2_with (first
    | (go_at_call_of 39 (Value.slice A l.length c); refine (HA.out _ (Below.refl _ _)).mono ?_; rintro e w1 ⟨v1, rfl, hi1, hb1⟩; have HI1 := Lib.hid hi1; clear hi1)
    | (go_at_call 39; refine (HB.out _ hb1).mono ?_; rintro e w2 ⟨v2, rfl, hi2, hb2⟩; have HI2 := Lib.hid hi2; clear hi2)
    | (go_at_call 75; refine (HC.out _ _ _ (HI1.out.below hb2) HI2.out).mono ?_; rintro e w3 ⟨rfl, hb3⟩))
  go_ret
  exact ⟨rfl, up_below' (up_below' hb1 hb2) hb3⟩

/-- Two keys: their values, then their handles. -/
def keyC (c h g : Int) : Int := if c = 0 then h - g else c

set_option maxHeartbeats 1000000 in
theorem cmp_any (c h g : Int) (b1 b2 : Nat) (u v : Value) (h0 : 0 ≤ h) (h1 : h ≤ 9223372036854775807) (g0 : 0 ≤ g) (g1 : g ≤ 9223372036854775807) (w : World) (l1 : b1 < w.heap.size) (l2 : b2 < w.heap.size)
    (c1 : w.cell? ⟨b1, 0, none⟩ = some u) (c2 : w.cell? ⟨b1, 1, none⟩ = some (.int .i64 h)) (c3 : w.cell? ⟨b2, 0, none⟩ = some v) (c4 : w.cell? ⟨b2, 1, none⟩ = some (.int .i64 g))
    (HC : Hid (∀ w', Below w.heap.size w w' → Calls Tryz.prog 96 #[u, v] w' (ColP c w'))) :
    Calls Tryz.prog 107 #[.pointer (some ⟨b1, 0, none⟩), .pointer (some ⟨b2, 0, none⟩)] w (ColP (keyC c h g) w) := by
  have ew : wrap64 (h - g) = h - g := by unfold wrap64; omega
  have hz : (c != 0) = !(c == 0) := rfl
  cases hc : (c == 0) with
  | true =>
    obtain rfl : c = 0 := by simpa using hc
    have e1 : keyC 0 h g = h - g := rfl
    rw [e1]
    go_enter Tryz.func107, Tryz.ntmps107
    go_wp2
    go_region_held3 (fun w' => w'.cell? ⟨b1, 0, none⟩ = some u ∧ w'.cell? ⟨b2, 0, none⟩ = some v) (first | go_keep | exact ⟨(hcx _ _ l1).trans c1, (hcx _ _ l2).trans c3⟩) (first | (go_at_call 96; refine (HC.out _ (by repeat (first | exact Below.refl _ _ | refine Below.drew ?_ | refine below_drewN ?_ _))).mono ?_; rintro e w1 ⟨rfl, hb1⟩; obtain ⟨hcx, hfx⟩ := bcellD hb1))
    go_wp2
    have d2 := (hcx b1 1 l1).trans c2
    have d4 := (hcx b2 1 l2).trans c4
    go_quiet (fail)
    go_wp2
    go_ret
    exact ⟨by first | rfl | rw [ew], below_drewN (up_below ((Below.refl _ _).drew) (Nat.le_refl _) hb1) _⟩
  | false =>
    have hz2 : (c != 0) = true := by rw [hz, hc]; rfl
    have e1 : keyC c h g = c := by unfold keyC; rw [if_neg (by simpa using hc)]
    rw [e1]
    go_enter Tryz.func107, Tryz.ntmps107
    go_wp2
    go_region_held3 (fun w' => w'.cell? ⟨b1, 0, none⟩ = some u ∧ w'.cell? ⟨b2, 0, none⟩ = some v) (first | go_keep | exact ⟨(hcx _ _ l1).trans c1, (hcx _ _ l2).trans c3⟩) (first | (go_at_call 96; refine (HC.out _ (by repeat (first | exact Below.refl _ _ | refine Below.drew ?_ | refine below_drewN ?_ _))).mono ?_; rintro e w1 ⟨rfl, hb1⟩; obtain ⟨hcx, hfx⟩ := bcellD hb1))
    go_wp2
    go_ret
    exact ⟨rfl, up_below ((Below.refl _ _).drew) (Nat.le_refl _) hb1⟩

theorem cells_two (w : World) (C D : Array Value) (t u : TypeId) (j : Nat) : ((w.alloc (.cells C t)).alloc (.cells D u)).cell? ⟨w.heap.size, j, none⟩ = C[j]? := by
  rw [World.cell?_alloc_lt _ _ ⟨w.heap.size, j, none⟩ (by simp)]
  exact World.cell?_alloc_mark w C t (0, 0) j

end Go.Proofs.YtffgkocokkhahaaGreatDoor

/- impl.ins, and where what it makes lies; data that stay as they are. -/
namespace Go.Proofs.YtffgkocokkhahaaGreatDoor
open Go.RowKit

def InsPost2 (l : List VV) (w : World) (e : Ending) (w' : World) : Prop :=
  ∃ A c vs, e = .returned (.slice A l.length c) ∧ Reads w' w'.heap.size 1 A l.length vs ∧ RepK w' l l.length vs ∧ Below w.heap.size w w' ∧ (∀ ad, A = some ad → w.heap.size ≤ ad.block) ∧ ∀ (j : Nat) (v : Value), vs[j]? = some v → From w.heap.size v

theorem from_more {B C : Nat} {vs : List Value} {v : Value} (h : ∀ (j : Nat) (v : Value), vs[j]? = some v → From B v) (hv : From C v) (hBC : B ≤ C) : ∀ (j : Nat) (u : Value), (vs ++ [v])[j]? = some u → From B u := by
  intro j u hu
  have hm : u ∈ vs ++ [v] := List.mem_of_getElem? hu
  rcases List.mem_append.1 hm with h' | h'
  · obtain ⟨i, hi⟩ := List.getElem?_of_mem h'
    exact h i u hi
  · have : u = v := by simpa using h'
    subst this
    exact fun t a n c e => Nat.le_trans hBC (hv t a n c e)

theorem own_from {w : World} {B : Nat} {e : TypeId} {size n c : Nat} {A : Option Addr} {xs : List Value} (h : w.ownsRow B e size (.slice A n c) n xs) : ∀ ad, A = some ad → B ≤ ad.block := by
  intro ad hA
  rcases h.2 with ⟨h2, _⟩ | ⟨g, cap, cur, e1, e2, _⟩
  · injection h2 with h2
    rw [h2] at hA
    cases hA
  · injection e1 with e1
    rw [hA] at e1
    injection e1 with e1
    subst e1
    exact e2

set_option maxHeartbeats 1000000 in
theorem ins2_all (l : List VV) (A : Option Addr) (c : Nat) (w : World) (hl : LAt w A l) (hgood : ∀ (j : Nat) (x : VV), l[j]? = some x → x.good) (hm : l.length ≤ 2147483647) :
    Calls Tryz.prog 39 #[.slice A l.length c] w (InsPost2 l w) := by
  obtain ⟨i0, hi, hz0, hz1, hz2⟩ := info_parts info_iface
  obtain ⟨len, hlen⟩ : ∃ len, len = l.length := ⟨_, rfl⟩
  have HL := Lib.hid hl
  have HN := Lib.hid hlen
  have HI := Lib.hid (fun (x : VV) (hg : x.good) w => in2_any x hg w)
  have HG := Lib.hid hgood
  unfold InsPost2
  rw [← hlen] at hm ⊢
  clear hl hlen hgood
  go_enter Tryz.func39, Tryz.ntmps39
  go_wp2
  go_loopw [3, 8] (fun r i wr => ∃ (k : Nat) (vs : List Value), k ≤ len ∧ i = .int .i64 k ∧ wr.ownsRow w.heap.size 20 1 r k vs ∧ RepK wr l k vs ∧ Apart vs r.ownBlock ∧ (∀ (j : Nat) (v : Value), vs[j]? = some v → From w.heap.size v) ∧ Below w.heap.size w wr) (fun _ i _ => len - (intOf i).toNat)
  case atStart => exact ⟨0, [], by omega, rfl, World.ownsRow_nil _ _ _ _, ⟨rfl, fun j x v _ h => by simp at h⟩, fun j v h => by simp at h, fun j v h => by simp at h, Below.refl _ _⟩
  case round =>
    obtain ⟨k, vs, hk, rfl, hown, hrep, hap, hfr, hb⟩ := hrel
    have HFR := Lib.hid hfr
    have HO := Lib.hid hown
    have HR := Lib.hid hrep
    have HP := Lib.hid hap
    have HB := Lib.hid hb
    have hs := hb.size
    clear hown hrep hap hfr
    by_cases hlt : k < len
    · have hlt2 : k < l.length := by rw [← HN.out]; exact hlt
      obtain ⟨x, hx'⟩ : ∃ x, l[k]? = some x := ⟨_, List.getElem?_eq_getElem hlt2⟩
      have HX := Lib.hid hx'
      have HX2 := Lib.hid (HI.out x (HG.out k x hx'))
      have HT := Lib.hid hlt2
      obtain ⟨ad, rfl, hbl, h0, h1, h2, h3, h4⟩ := (HL.out.below hb) k x hx'
      clear hx' hlt2 hb
      go_wp2_with (first
        | (go_at_call 68; refine (HX2.out _).mono ?_; rintro e w1 ⟨v, y, rfl, hrv, hb1, hsv, hnew⟩; have HV := Lib.hid hrv; have HS := Lib.hid hsv; have HW := Lib.hid hnew; have HB1 := Lib.hid hb1; clear hsv hnew hb1; rcases rep_form hrv with rfl | ⟨tv, uv, rfl⟩ <;> clear hrv)
        | (at_builtin
           refine wpList_append_any _ rfl (.tmp 12) (.tmp 15) _ rfl w.heap.size 20 i0 _ 1 16 Tryz.underlying87 hi hz0 hz1 hz2 rfl (by omega) u3 k vs rfl
             ((own_below (HO.out.alloc _) HB1.out).alloc _) (w1.heap.size + 1) (some ⟨w1.heap.size, 0, none⟩) 1 1 [_] rfl (reads_new _ _ _) (fun u hu => by simp at hu; subst hu; exact rep_one HV.out) (by simp only [maxLen]; omega) (by omega) (by have := HB1.out.size; simp at this ⊢; omega) ?_
           intro v2 w2 hown2 hg2 hat2
           have HO2 := Lib.hid hown2; have HG2 := Lib.hid hg2; have HA2 := Lib.hid hat2; clear hown2 hg2 hat2))
      all_goals
        have R := ins_step HO.out HB.out.size HR.out HP.out HT.out HX.out HB1.out HV.out HS.out HW.out HG2.out HA2.out HB.out
        exact ⟨⟨k + 1, _, by omega, by push_cast; rfl, HO2.out, R.1, R.2.1, from_more HFR.out HW.out (by simp; omega), R.2.2⟩, by simp [intOf]; omega⟩
    · have hke : k = len := by omega
      subst hke
      obtain ⟨A', c', rfl⟩ := own_form HO.out
      go_wp2
      go_ret
      exact ⟨A', c', vs, rfl, Reads.of_own HO.out, HR.out, HB.out, own_from HO.out, HFR.out⟩


/-- Values that lie in memory of their own. -/
structure InsD (D : Nat → Prop) (w : World) (l : List VV) (A : Option Addr) (vs : List Value) : Prop where
  reads : Reads w w.heap.size 1 A l.length vs
  rep : RepK w l l.length vs
  row : ∀ ad, A = some ad → D ad.block
  vals : ∀ (j : Nat) (v : Value), vs[j]? = some v → ∀ (t : TypeId) (a : Addr) (n c : Nat), v = .iface t (.slice (some a) n c) → D a.block

theorem Rep.chg {S : Nat → Prop} {w w' : World} {y : SV} {v : Value} (h : Rep w y v) (hc : Chg S w w') (hn : ∀ t a n c, v = .iface t (.slice (some a) n c) → ¬ S a.block) : Rep w' y v := by
  cases y <;> try exact h
  obtain ⟨a, cap, rfl, hlt, hcell⟩ := h
  have hb := hc.block a.block hlt (hn _ a _ cap rfl)
  refine ⟨a, cap, rfl, Nat.lt_of_lt_of_le hlt hc.size, fun j hj => ?_⟩
  rw [← hcell j hj]
  exact World.cell?_of_block (by rw [block_add]; exact hb)

theorem InsD.chg {D S : Nat → Prop} {w w' : World} {l : List VV} {A : Option Addr} {vs : List Value} (h : InsD D w l A vs) (hc : Chg S w w') (hn : ∀ k, D k → ¬ S k) : InsD D w' l A vs := by
  refine ⟨⟨h.reads.1, fun hl => ?_⟩, ⟨h.rep.1, fun j x v hx hv => ?_⟩, h.row, h.vals⟩
  · obtain ⟨ad, e, hlt, hcell⟩ := h.reads.2 hl
    refine ⟨ad, e, Nat.lt_of_lt_of_le hlt hc.size, fun j u hu => ?_⟩
    rw [← hcell j u hu]
    exact World.cell?_of_block (by rw [block_add]; exact hc.block _ hlt (hn _ (h.row ad e)))
  · obtain ⟨y, h1, h2⟩ := h.rep.2 j x v hx hv
    exact ⟨y, h1, h2.chg hc (fun t a n c e => hn _ (h.vals j v hv t a n c e))⟩

theorem InsD.mono {D E : Nat → Prop} {w : World} {l : List VV} {A : Option Addr} {vs : List Value} (h : InsD D w l A vs) (hn : ∀ k, D k → E k) : InsD E w l A vs :=
  ⟨h.reads, h.rep, fun ad e => hn _ (h.row ad e), fun j v hv t a n c e => hn _ (h.vals j v hv t a n c e)⟩

end Go.Proofs.YtffgkocokkhahaaGreatDoor

/- Pages: a count, elements side by side, room, two words behind. What an insertion, a move to a neighbour, a split make of one. Of no program. -/
namespace Go.Proofs.YtffgkocokkhahaaGreatDoor
open Go.RowKit

theorem splice_low {α : Type} (L cs : List α) (o k : Nat) (hk : k < o) (ho : o ≤ L.length) : (splice L o cs)[k]? = L[k]? := by
  unfold splice
  rw [List.getElem?_append_left (by rw [List.length_take]; omega), List.getElem?_take, if_pos hk]

theorem splice_nil {α : Type} (L : List α) (o : Nat) : splice L o [] = L := by simp [splice]

/-- The middle is replaced. -/
theorem splice_mid {α : Type} (X Y Z cs : List α) (o : Nat) (ho : o = X.length) (h : Y.length = cs.length) : splice (X ++ (Y ++ Z)) o cs = X ++ (cs ++ Z) := by
  subst ho
  unfold splice
  rw [List.take_append_of_le_length (by omega), List.take_length, ← h, List.drop_append, List.drop_of_length_le (by omega), show X.length + Y.length - X.length = Y.length by omega, List.drop_append_of_le_length (by omega), List.drop_length]
  simp

theorem set_splice {α : Type} (L : List α) (o : Nat) (v : α) (h : o < L.length) : L.set o v = splice L o [v] := by
  unfold splice
  rw [List.set_eq_take_append_cons_drop, if_pos h]
  rfl

theorem splice_next {α : Type} (L cs ds : List α) (o : Nat) (h : o + cs.length + ds.length ≤ L.length) : splice (splice L o cs) (o + cs.length) ds = splice L o (cs ++ ds) := by
  have e : L = L.take o ++ (L.drop o).take cs.length ++ ((L.drop (o + cs.length)).take ds.length ++ L.drop (o + cs.length + ds.length)) := by
    rw [List.append_assoc, ← List.append_assoc (List.take cs.length _), ← List.drop_drop (i := ds.length) (j := o + cs.length) ]
    rw [List.append_assoc, List.take_append_drop, ← List.drop_drop, List.take_append_drop, List.take_append_drop]
  have h1 : splice L o cs = L.take o ++ (cs ++ L.drop (o + cs.length)) := rfl
  have e2 : L.drop (o + cs.length) = (L.drop (o + cs.length)).take ds.length ++ (L.drop (o + cs.length)).drop ds.length := (List.take_append_drop _ _).symm
  rw [h1, e2, show L.take o ++ (cs ++ ((L.drop (o + cs.length)).take ds.length ++ (L.drop (o + cs.length)).drop ds.length)) = (L.take o ++ cs) ++ ((L.drop (o + cs.length)).take ds.length ++ (L.drop (o + cs.length)).drop ds.length) by simp]
  rw [splice_mid _ _ _ ds _ (by simp; omega) (by simp; omega)]
  unfold splice
  rw [List.drop_drop, List.length_append]
  simp [Nat.add_assoc]

theorem set2_splice {α : Type} (L : List α) (o : Nat) (a b : α) (h : o + 2 ≤ L.length) : (L.set o a).set (o + 1) b = splice L o [a, b] := by
  rw [set_splice L o a (by omega), set_splice _ (o + 1) b (by rw [length_splice _ _ _ (by simp; omega)]; omega)]
  exact splice_next L [a] [b] o (by simp; omega)

theorem set3_splice {α : Type} (L : List α) (o : Nat) (a b c : α) (h : o + 3 ≤ L.length) : ((L.set o a).set (o + 1) b).set (o + 2) c = splice L o [a, b, c] := by
  rw [set2_splice L o a b (by omega), set_splice _ (o + 2) c (by rw [length_splice _ _ _ (by simp; omega)]; omega)]
  exact splice_next L [a, b] [c] o (by simp; omega)

/-- The middle is read. -/
theorem mid_at {α : Type} (X Y Z : List α) (o j : Nat) (v : α) (ho : o = X.length) (h : Y[j]? = some v) : (X ++ (Y ++ Z))[o + j]? = some v := by
  subst ho
  have hj : j < Y.length := (List.getElem?_eq_some_iff.1 h).1
  rw [List.getElem?_append_right (by omega), show X.length + j - X.length = j by omega, List.getElem?_append_left hj]
  exact h

section
variable {E : Type} (f : E → List Value) (s : Nat) (hf : ∀ e, (f e).length = s)

/-- A page's cells. -/
def pgL (es : List E) (rest T : List Value) : List Value := .int .i64 es.length :: (flat f es ++ (rest ++ T))

include hf in
theorem pgL_length (es : List E) (rest T : List Value) : (pgL f es rest T).length = 1 + (es.length * s + (rest.length + T.length)) := by
  simp [pgL, flat_length f s hf]; omega

/-- The count is written over. -/
theorem pgL_set0 (es : List E) (rest T : List Value) (v : Value) : (pgL f es rest T).set 0 v = v :: (flat f es ++ (rest ++ T)) := rfl

theorem pgL_count (es : List E) (rest T : List Value) : (pgL f es rest T)[0]? = some (.int .i64 es.length) := rfl

include hf in
theorem pgL_at (es : List E) (rest T : List Value) (i r : Nat) (e : E) (v : Value) (h : es[i]? = some e) (hr : r < s) (hv : (f e)[r]? = some v) : (pgL f es rest T)[1 + i * s + r]? = some v := by
  unfold pgL
  rw [show 1 + i * s + r = (i * s + r) + 1 by omega, List.getElem?_cons_succ]
  have h1 := flat_at f s hf es i e r v h hr hv
  rw [List.getElem?_append_left (List.getElem?_eq_some_iff.1 h1).1]
  exact h1

include hf in
theorem pgL_tail (es : List E) (rest T : List Value) (k j : Nat) (hk : k = 1 + es.length * s + rest.length + j) : (pgL f es rest T)[k]? = T[j]? := by
  subst hk
  unfold pgL
  rw [show 1 + es.length * s + rest.length + j = (es.length * s + (rest.length + j)) + 1 by omega, List.getElem?_cons_succ, List.getElem?_append_right (by rw [flat_length f s hf]; omega), flat_length f s hf,
    show es.length * s + (rest.length + j) - es.length * s = rest.length + j by omega, List.getElem?_append_right (by omega)]
  congr 1
  omega

include hf in
/-- Elements from i on, as many as are wanted, are what lies there. -/
theorem pgL_src (es : List E) (rest T : List Value) (i n j : Nat) (v : Value) (h : (flat f ((es.drop i).take n))[j]? = some v) : (pgL f es rest T)[1 + i * s + j]? = some v := by
  have e1 : flat f es = flat f (es.take i) ++ (flat f ((es.drop i).take n) ++ flat f ((es.drop i).drop n)) := by
    rw [← flat_append, List.take_append_drop, ← flat_append, List.take_append_drop]
  rcases Nat.lt_or_ge es.length i with hi | hi
  · rw [List.drop_of_length_le (by omega)] at h
    simp [flat] at h
  · unfold pgL
    rw [show 1 + i * s + j = (i * s + j) + 1 by omega, List.getElem?_cons_succ]
    have h1 : (flat f es)[i * s + j]? = some v := by
      rw [e1]
      exact mid_at _ _ _ _ j v (by rw [flat_length f s hf, List.length_take, Nat.min_eq_left hi]) h
    rw [List.getElem?_append_left (List.getElem?_eq_some_iff.1 h1).1]
    exact h1

include hf in
/-- An insertion: the elements from i on go one up, the count is raised, the new one is laid at i. -/
theorem ins_row (es : List E) (rest T : List Value) (i : Nat) (e : E) (hi : i ≤ es.length) (hr : s ≤ rest.length) :
    splice ((splice (pgL f es rest T) (1 + (i + 1) * s) (flat f (es.drop i))).set 0 (.int .i64 (es.length + 1 : Nat))) (1 + i * s) (f e) = pgL f (es.take i ++ e :: es.drop i) (rest.drop s) T := by
  have hA : (flat f (es.take i)).length = i * s := by rw [flat_length f s hf, List.length_take, Nat.min_eq_left hi]
  have hD : (flat f (es.drop i)).length = (es.length - i) * s := by rw [flat_length f s hf, List.length_drop]
  have e1 : flat f es = flat f (es.take i) ++ flat f (es.drop i) := by rw [← flat_append, List.take_append_drop]
  have hDR : (flat f (es.drop i) ++ rest).length = (es.length - i) * s + rest.length := by rw [List.length_append, hD]
  have e2 : flat f (es.drop i) ++ rest = (flat f (es.drop i) ++ rest).take s ++ (((flat f (es.drop i) ++ rest).drop s).take ((es.length - i) * s) ++ rest.drop s) := by
    have : rest.drop s = ((flat f (es.drop i) ++ rest).drop s).drop ((es.length - i) * s) := by
      rw [List.drop_drop, List.drop_append, List.drop_of_length_le (l := flat f (es.drop i)) (by rw [hD]; omega), hD, List.nil_append]
      congr 1
      omega
    rw [this, List.take_append_drop, List.take_append_drop]
  have hX : ((flat f (es.drop i) ++ rest).take s).length = s := by rw [List.length_take, hDR]; omega
  have hY : (((flat f (es.drop i) ++ rest).drop s).take ((es.length - i) * s)).length = (es.length - i) * s := by rw [List.length_take, List.length_drop, hDR]; omega
  generalize hXd : (flat f (es.drop i) ++ rest).take s = X at *
  generalize ((flat f (es.drop i) ++ rest).drop s).take ((es.length - i) * s) = Y at *
  have e3 : pgL f es rest T = (.int .i64 es.length :: (flat f (es.take i) ++ X)) ++ (Y ++ (rest.drop s ++ T)) := by
    unfold pgL
    rw [e1, show flat f (es.take i) ++ flat f (es.drop i) ++ (rest ++ T) = flat f (es.take i) ++ ((flat f (es.drop i) ++ rest) ++ T) by simp, e2]
    simp
  rw [e3, splice_mid _ _ _ (flat f (es.drop i)) _ (by simp [hA, hX, Nat.succ_mul]; omega) (by rw [hY, hD])]
  rw [show ((.int .i64 es.length :: (flat f (es.take i) ++ X)) ++ (flat f (es.drop i) ++ (rest.drop s ++ T))).set 0 (Value.int .i64 (es.length + 1 : Nat)) = (.int .i64 (es.length + 1 : Nat) :: flat f (es.take i)) ++ (X ++ (flat f (es.drop i) ++ (rest.drop s ++ T))) by simp]
  rw [splice_mid _ _ _ (f e) _ (by simp [hA]; omega) (by rw [hX, hf])]
  unfold pgL
  rw [flat_append, flat_cons]
  simp [List.length_take, Nat.min_eq_left hi]
  omega

include hf in
/-- Elements are laid behind those of a page. -/
theorem add_row (es fs : List E) (rest T : List Value) (h : fs.length * s ≤ rest.length) :
    (splice (pgL f es rest T) (1 + es.length * s) (flat f fs)).set 0 (.int .i64 (es.length + fs.length : Nat)) = pgL f (es ++ fs) (rest.drop (fs.length * s)) T := by
  have e1 : rest = rest.take (fs.length * s) ++ rest.drop (fs.length * s) := (List.take_append_drop _ _).symm
  have e3 : pgL f es rest T = (.int .i64 es.length :: flat f es) ++ (rest.take (fs.length * s) ++ (rest.drop (fs.length * s) ++ T)) := by
    unfold pgL
    rw [List.cons_append, ← List.append_assoc (rest.take _), List.take_append_drop]
  rw [e3, splice_mid _ _ _ (flat f fs) _ (by simp [flat_length f s hf]; omega) (by rw [List.length_take, flat_length f s hf]; omega)]
  unfold pgL
  rw [flat_append]
  simp

include hf in
/-- The first c elements are taken out: those behind go down. -/
theorem cut_row (es : List E) (rest T : List Value) (c : Nat) (hc : c ≤ es.length) :
    ∃ rest', rest'.length = rest.length + c * s ∧ (∀ x ∈ rest', x ∈ flat f es ∨ x ∈ rest) ∧
      (splice (pgL f es rest T) 1 (flat f (es.drop c))).set 0 (.int .i64 (es.length - c : Nat)) = pgL f (es.drop c) rest' T := by
  have hD : (flat f (es.drop c)).length = (es.length - c) * s := by rw [flat_length f s hf, List.length_drop]
  have hL : (flat f es ++ rest).length = es.length * s + rest.length := by rw [List.length_append, flat_length f s hf]
  have hm : (es.length - c) * s + c * s = es.length * s := by rw [← Nat.add_mul]; congr 1; omega
  refine ⟨(flat f es ++ rest).drop ((es.length - c) * s), by rw [List.length_drop, hL]; omega, fun x hx => by have := List.mem_of_mem_drop hx; simpa using this, ?_⟩
  have e3 : pgL f es rest T = [.int .i64 es.length] ++ ((flat f es ++ rest).take ((es.length - c) * s) ++ ((flat f es ++ rest).drop ((es.length - c) * s) ++ T)) := by
    unfold pgL
    rw [← List.append_assoc (List.take _ _), List.take_append_drop]
    simp
  rw [e3, splice_mid _ _ _ (flat f (es.drop c)) 1 (by simp) (by rw [List.length_take, hL, hD]; omega)]
  unfold pgL
  simp

include hf in
/-- Elements are laid ahead of those of a page. -/
theorem fore_row (es fs : List E) (rest T : List Value) (h : fs.length * s ≤ rest.length) :
    (splice (splice (pgL f es rest T) (1 + fs.length * s) (flat f es)) 1 (flat f fs)).set 0 (.int .i64 (es.length + fs.length : Nat)) = pgL f (fs ++ es) (rest.drop (fs.length * s)) T := by
  have hE : (flat f es).length = es.length * s := flat_length f s hf es
  have hF : (flat f fs).length = fs.length * s := flat_length f s hf fs
  have hL : (flat f es ++ rest).length = es.length * s + rest.length := by rw [List.length_append, hE]
  have e2 : flat f es ++ rest = (flat f es ++ rest).take (fs.length * s) ++ (((flat f es ++ rest).drop (fs.length * s)).take (es.length * s) ++ rest.drop (fs.length * s)) := by
    have : rest.drop (fs.length * s) = ((flat f es ++ rest).drop (fs.length * s)).drop (es.length * s) := by
      rw [List.drop_drop, List.drop_append, List.drop_of_length_le (l := flat f es) (by rw [hE]; omega), hE, List.nil_append]
      congr 1
      omega
    rw [this, List.take_append_drop, List.take_append_drop]
  have hX : ((flat f es ++ rest).take (fs.length * s)).length = fs.length * s := by rw [List.length_take, hL]; omega
  have hY : (((flat f es ++ rest).drop (fs.length * s)).take (es.length * s)).length = es.length * s := by rw [List.length_take, List.length_drop, hL]; omega
  generalize (flat f es ++ rest).take (fs.length * s) = X at *
  generalize ((flat f es ++ rest).drop (fs.length * s)).take (es.length * s) = Y at *
  have e3 : pgL f es rest T = (.int .i64 es.length :: X) ++ (Y ++ (rest.drop (fs.length * s) ++ T)) := by
    unfold pgL
    rw [show flat f es ++ (rest ++ T) = (flat f es ++ rest) ++ T by simp, e2]
    simp
  rw [e3, splice_mid _ _ _ (flat f es) _ (by simp [hX]; omega) (by rw [hY, hE])]
  rw [show (.int .i64 es.length :: X) ++ (flat f es ++ (rest.drop (fs.length * s) ++ T)) = [Value.int .i64 es.length] ++ (X ++ (flat f es ++ (rest.drop (fs.length * s) ++ T))) by simp]
  rw [splice_mid _ _ _ (flat f fs) 1 (by simp) (by rw [hX, hF])]
  unfold pgL
  rw [flat_append]
  simp [Nat.add_comm]

/-- Fewer elements: the others are room. -/
theorem less_row (es : List E) (rest T : List Value) (c : Nat) (hc : c ≤ es.length) :
    (pgL f es rest T).set 0 (.int .i64 c) = pgL f (es.take c) (flat f (es.drop c) ++ rest) T := by
  unfold pgL
  rw [← List.append_assoc (flat f (es.take c)), ← List.append_assoc (flat f (es.take c)), ← flat_append, List.take_append_drop, List.length_take, Nat.min_eq_left hc]
  simp
end

end Go.Proofs.YtffgkocokkhahaaGreatDoor

/- Pages of the index's tree in memory. -/
namespace Go.Proofs.YtffgkocokkhahaaGreatDoor
open Go.RowKit

/-- An entry of a page: the key's values, as they are and as they lie in memory; its handle; what is kept. -/
structure XE where
  l : List VV
  A : Option Addr
  m : Nat
  p : Nat
  h : Int
  n : Int
def XE.cells (e : XE) : List Value := [.slice e.A e.m e.p, .int .i64 e.h, .int .i64 e.n]
theorem XE.three (e : XE) : e.cells.length = 3 := rfl

/-- A page's memory. -/
structure PageAt (w : World) (b : Nat) (es : List XE) (rest : List Value) (nx pv : Value) : Prop where
  heap : w.heap[b]? = some (.cells (pgL XE.cells es rest [nx, pv]).toArray 175 (0, 0))
  room : es.length * 3 + rest.length = 387
  one : ∀ x ∈ rest, x.oneCell' = true

theorem PageAt.lt {w : World} {b : Nat} {es : List XE} {rest : List Value} {nx pv : Value} (h : PageAt w b es rest nx pv) : b < w.heap.size := lt_of_heap h.heap
theorem PageAt.le {w : World} {b : Nat} {es : List XE} {rest : List Value} {nx pv : Value} (h : PageAt w b es rest nx pv) : es.length ≤ 129 := by have := h.room; omega
theorem PageAt.cell {w : World} {b : Nat} {es : List XE} {rest : List Value} {nx pv : Value} (h : PageAt w b es rest nx pv) (o : Nat) : w.cell? ⟨b, o, none⟩ = (pgL XE.cells es rest [nx, pv])[o]? := by
  rw [cell_of_heap h.heap]
  simp
theorem PageAt.free {w : World} {b : Nat} {es : List XE} {rest : List Value} {nx pv : Value} (h : PageAt w b es rest nx pv) (o : Nat) : w.frozen? ⟨b, o, none⟩ = false := free_of_heap h.heap o
theorem PageAt.chg {S : Nat → Prop} {w w' : World} {b : Nat} {es : List XE} {rest : List Value} {nx pv : Value} (h : PageAt w b es rest nx pv) (hc : Chg S w w') (hn : ¬ S b) : PageAt w' b es rest nx pv :=
  ⟨heap_chg h.heap hc hn, h.room, h.one⟩

/-- The tree's own five words. -/
def TreeW (w : World) (t : Nat) (c : Int) (fi la r : Value) (ver : Int) : Prop := w.heap[t]? = some (.cells #[.int .i64 c, fi, la, r, .int .i64 ver] 168 (0, 0))

theorem TreeW.chg {S : Nat → Prop} {w w' : World} {t : Nat} {c : Int} {fi la r : Value} {ver : Int} (h : TreeW w t c fi la r ver) (hc : Chg S w w') (hn : ¬ S t) : TreeW w' t c fi la r ver := heap_chg h hc hn

@[go_sem] theorem as_xx_xd (v : Value) (w : World) : (Instr.typeAssert (.iface 149 v) 20 169 true).run Tryz.prog w = .ok (.tuple #[.pointer none, .bool false]) w := by kernel_rfl
@[go_sem] theorem as_xd_xd (v : Value) (w : World) : (Instr.typeAssert (.iface 149 v) 20 149 true).run Tryz.prog w = .ok (.tuple #[v, .bool true]) w := by kernel_rfl
@[go_sem] theorem as_xd_xd1 (v : Value) (w : World) : (Instr.typeAssert (.iface 149 v) 20 149 false).run Tryz.prog w = .ok v w := by kernel_rfl
@[go_sem] theorem as_xx_xx (v : Value) (w : World) : (Instr.typeAssert (.iface 169 v) 20 169 true).run Tryz.prog w = .ok (.tuple #[v, .bool true]) w := by kernel_rfl
@[go_sem] theorem as_xd_xx (v : Value) (w : World) : (Instr.typeAssert (.iface 169 v) 20 149 true).run Tryz.prog w = .ok (.tuple #[.pointer none, .bool false]) w := by kernel_rfl

theorem flat_one (es : List XE) : ∀ x ∈ flat XE.cells es, x.oneCell' = true := by
  intro x hx
  unfold flat at hx
  obtain ⟨e, he, hx⟩ := List.mem_flatMap.1 hx
  simp [XE.cells] at hx
  rcases hx with rfl | rfl | rfl <;> rfl

/-- The root over several pages: a count, the first page, then for each further one itself twice: as what parts, and as what hangs there. -/
def dbl (b : Nat) : List Value := [.pointer (some ⟨b, 0, none⟩), .iface 149 (.pointer (some ⟨b, 0, none⟩))]
theorem dbl_two (b : Nat) : (dbl b).length = 2 := rfl
def xgL (b0 : Nat) (bs : List Nat) (rest : List Value) : List Value := .int .i64 bs.length :: .iface 149 (.pointer (some ⟨b0, 0, none⟩)) :: (flat dbl bs ++ rest)
structure RootAt (w : World) (x b0 : Nat) (bs : List Nat) (rest : List Value) : Prop where
  heap : w.heap[x]? = some (.cells (xgL b0 bs rest).toArray 180 (0, 0))
  room : bs.length * 2 + rest.length = 515
  one : ∀ v ∈ rest, v.oneCell' = true

theorem xgL_length (b0 : Nat) (bs : List Nat) (rest : List Value) : (xgL b0 bs rest).length = 2 + (bs.length * 2 + rest.length) := by
  simp [xgL, flat_length dbl 2 dbl_two]
  omega
theorem RootAt.lt {w : World} {x b0 : Nat} {bs : List Nat} {rest : List Value} (h : RootAt w x b0 bs rest) : x < w.heap.size := lt_of_heap h.heap
theorem RootAt.cell {w : World} {x b0 : Nat} {bs : List Nat} {rest : List Value} (h : RootAt w x b0 bs rest) (o : Nat) : w.cell? ⟨x, o, none⟩ = (xgL b0 bs rest)[o]? := by
  rw [cell_of_heap h.heap]
  simp
theorem RootAt.free {w : World} {x b0 : Nat} {bs : List Nat} {rest : List Value} (h : RootAt w x b0 bs rest) (o : Nat) : w.frozen? ⟨x, o, none⟩ = false := free_of_heap h.heap o
theorem RootAt.below {w w' : World} {x b0 : Nat} {bs : List Nat} {rest : List Value} (h : RootAt w x b0 bs rest) (hb : Below w.heap.size w w') : RootAt w' x b0 bs rest := ⟨heap_below h.heap hb, h.room, h.one⟩
theorem RootAt.chg {S : Nat → Prop} {w w' : World} {x b0 : Nat} {bs : List Nat} {rest : List Value} (h : RootAt w x b0 bs rest) (hc : Chg S w w') (hn : ¬ S x) : RootAt w' x b0 bs rest := ⟨heap_chg h.heap hc hn, h.room, h.one⟩
theorem PageAt.below {w w' : World} {b : Nat} {es : List XE} {rest : List Value} {nx pv : Value} (h : PageAt w b es rest nx pv) (hb : Below w.heap.size w w') : PageAt w' b es rest nx pv := ⟨heap_below h.heap hb, h.room, h.one⟩

/-- What parts the pages j and j + 1. -/
theorem RootAt.sep {w : World} {x b0 : Nat} {bs : List Nat} {rest : List Value} (h : RootAt w x b0 bs rest) {j b : Nat} (hj : bs[j]? = some b) : w.cell? ⟨x, 1 + j * 2 + 1, none⟩ = some (.pointer (some ⟨b, 0, none⟩)) := by
  rw [h.cell]
  unfold xgL
  rw [show 1 + j * 2 + 1 = (j * 2) + 1 + 1 by omega, List.getElem?_cons_succ, List.getElem?_cons_succ]
  have h1 : (flat dbl bs)[j * 2]? = some (.pointer (some ⟨b, 0, none⟩)) := flat_at dbl 2 dbl_two bs j b 0 _ hj (by omega) rfl
  rw [List.getElem?_append_left (List.getElem?_eq_some_iff.1 h1).1]
  exact h1
theorem RootAt.ch {w : World} {x b0 : Nat} {bs : List Nat} {rest : List Value} (h : RootAt w x b0 bs rest) {j b : Nat} (hj : (b0 :: bs)[j]? = some b) : w.cell? ⟨x, 1 + j * 2, none⟩ = some (.iface 149 (.pointer (some ⟨b, 0, none⟩))) := by
  rw [h.cell]
  unfold xgL
  cases j with
  | zero =>
    obtain rfl : b0 = b := by simpa using hj
    rfl
  | succ j =>
    rw [show 1 + (j + 1) * 2 = (j * 2 + 1) + 1 + 1 by omega, List.getElem?_cons_succ, List.getElem?_cons_succ]
    have h1 := flat_at dbl 2 dbl_two bs j b 1 _ (by simpa using hj) (by omega) rfl
    rw [List.getElem?_append_left (List.getElem?_eq_some_iff.1 h1).1]
    exact h1

end Go.Proofs.YtffgkocokkhahaaGreatDoor
