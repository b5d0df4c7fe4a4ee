/-
  bytes.Compare of two blobs; ql.collate1 of two blobs. || ql.collate1 of any two values that are no literals and no NaN; impl.Collate, impl.Rank. PRINTED BY wip/tpl/gen_coc.py. || The order of two values is one of three numbers. || ql.collate of two lists of as many values, each of a type and a number. || A region that draws its order, whose operations only read old cells and whose callees lay new blocks alone: walked once. Of no program. || impl.CollateRows and impl.KeyCompare of two lists of as many values, each of a type and a number. || impl.ins, and where what it makes lies; data that stay as they are. || The order of keys: lists of values, then handles. Where a key stands in an ordered list.
-/
import Derived.Test.YtffgkocokkhahaaDoorTp02
import Derived.Test.YtffgkocokkhahaaDoorTp06
import Derived.Lib.BytesEntry
import Derived.Laws.Externs
import Derived.Test.YtffgkocokkhahaaDoorTp08
import Derived.Test.YtffgkocokkhahaaDoorTp09
import Derived.Test.YtffgkocokkhahaaDoorTp10
import Derived.Deep.RegionWith
import Derived.Test.YtffgkocokkhahaaDoorTp01
import Derived.Deep.QuietTactic
import Derived.Below
import Derived.Deep.RegionHeld3

/- bytes.Compare of two blobs; ql.collate1 of two blobs. -/
namespace Go.Proofs.YtffgkocokkhahaaDoor
open Go.RowKit

def cmpL (l m : List UInt8) : Int :=
  match (List.range (min l.length m.length)).find? fun i => l[i]! != m[i]! with
  | some i => if l[i]! < m[i]! then -1 else 1
  | none => if l.length < m.length then -1 else if l.length > m.length then 1 else 0

theorem ba_get (l : List UInt8) (i : Nat) : (⟨l.toArray⟩ : ByteArray)[i]! = l[i]! := by
  by_cases h : i < l.length
  · rw [getElem!_pos (⟨l.toArray⟩ : ByteArray) i (by show i < l.toArray.size; simpa using h), getElem!_pos l i h]
    rfl
  · rw [getElem!_neg (⟨l.toArray⟩ : ByteArray) i (by show ¬ i < l.toArray.size; simpa using h), getElem!_neg l i h]

theorem cmp_list (l m : List UInt8) : Extern.BytealgCompare.cmp ⟨l.toArray⟩ ⟨m.toArray⟩ = cmpL l m := by
  unfold Extern.BytealgCompare.cmp cmpL
  simp only [ba_get]
  rfl

theorem cmpL_cons (x y : UInt8) (l m : List UInt8) : cmpL (x :: l) (y :: m) = if x = y then cmpL l m else if x < y then -1 else 1 := by
  unfold cmpL
  rw [List.length_cons, List.length_cons, show min (l.length + 1) (m.length + 1) = min l.length m.length + 1 from by omega, List.range_succ_eq_map, List.find?_cons]
  by_cases h : x = y
  · subst h
    simp only [List.getElem!_cons_zero, bne_self_eq_false, if_true, List.find?_map, Function.comp_def, List.getElem!_cons_succ]
    cases (List.range (min l.length m.length)).find? (fun i => l[i]! != m[i]!) with
    | none =>
      simp only [Option.map_none]
      split <;> split <;> first | rfl | (split <;> split <;> first | rfl | omega) | omega
    | some i => simp
  · have hb : (x != y) = true := by simp [h]
    simp [hb, h]

theorem cmpL_ord : ∀ (l m : List UInt8), cmpL l m = bytesOrd l m
  | [], [] => by decide
  | [], y :: m => by simp [cmpL, bytesOrd, three, Op.bytesLess]
  | x :: l, [] => by simp [cmpL, bytesOrd, three, Op.bytesLess]
  | x :: l, y :: m => by
    rw [cmpL_cons, cmpL_ord l m]
    unfold bytesOrd
    by_cases h : x = y
    · subst h
      simp [Op.bytesLess]
    · simp only [Op.bytesLess]
      by_cases h2 : x < y
      · simp [h, h2, three]
      · simp [h, h2, three]

theorem run_xload (w : World) (l : List UInt8) (a : Addr) (h : ∀ j (hj : j < l.length), w.cell? (a.add j) = some (.int .u8 (l[j].toNat : Int))) :
    (Extern.Bytes.loadBytes a l.length .empty).run Tryd.prog w = .ok ⟨l.toArray⟩ w := by
  have hl := Lib.run_loadBytesX (P := Tryd.prog) w (l.map fun b => (b.toNat : Int)) a .empty (fun j x hj => by
    rw [List.getElem?_map] at hj
    cases hg : l[j]? with
    | none => rw [hg] at hj; cases hj
    | some b =>
      rw [hg] at hj
      simp only [Option.map_some, Option.some.injEq] at hj
      subst hj
      obtain ⟨hlt, rfl⟩ := List.getElem?_eq_some_iff.1 hg
      exact h j hlt)
  rw [List.length_map] at hl
  rw [hl]
  congr 1
  apply ByteArray.ext
  show (#[] : Array UInt8) ++ (Lib.bytesOf (l.map fun b => (b.toNat : Int))).toArray = l.toArray
  rw [show Lib.bytesOf (l.map fun b => (b.toNat : Int)) = l from by
    unfold Lib.bytesOf
    rw [List.map_map]
    refine (List.map_congr_left (g := id) (fun b _ => ?_)).trans (List.map_id l)
    simp]
  simp

theorem run_cmp (w : World) (b c : List UInt8) (a a' : Addr) (p p' : Nat) (h : ∀ j (hj : j < b.length), w.cell? (a.add j) = some (.int .u8 (b[j].toNat : Int))) (h' : ∀ j (hj : j < c.length), w.cell? (a'.add j) = some (.int .u8 (c[j].toNat : Int))) :
    (Extern.BytealgCompare.compare #[.slice (some a) b.length p, .slice (some a') c.length p']).run Tryd.prog w = .ok (.int .i64 (bytesOrd b c)) w := by
  have l1 := run_xload w b a h
  have l2 := run_xload w c a' h'
  change Sem.run Tryd.prog (do pure (goInt (Extern.BytealgCompare.cmp (← Extern.Bytes.bytesOf (.slice (some a) b.length p)) (← Extern.Bytes.bytesOf (.slice (some a') c.length p'))))) w = _
  simp only [Extern.Bytes.bytesOf, Sem.run_bind, Sem.run_pure, l1, l2, Result.andThen]
  rw [cmp_list, cmpL_ord]
  rfl

theorem run_compare (w : World) (b c : List UInt8) (a a' : Addr) (p p' : Nat) (h : ∀ j (hj : j < b.length), w.cell? (a.add j) = some (.int .u8 (b[j].toNat : Int))) (h' : ∀ j (hj : j < c.length), w.cell? (a'.add j) = some (.int .u8 (c[j].toNat : Int))) :
    (callFunc 140 #[.slice (some a) b.length p, .slice (some a') c.length p']).run Tryd.prog w = .ok (.value (.int .i64 (bytesOrd b c))) w := by
  rw [run_callFunc_extern Tryd.func140 (by kernel_rfl) (by kernel_rfl) (by kernel_rfl) (e := Extern.BytealgCompare.compare) (by kernel_rfl), run_cmp w b c a a' p p' h h']
  rfl

set_option maxRecDepth 100000 in
set_option maxHeartbeats 1000000 in
theorem compare_any (w : World) (b c : List UInt8) (a a' : Addr) (p p' : Nat) (h : Hid (∀ j (hj : j < b.length), w.cell? (a.add j) = some (.int .u8 (b[j].toNat : Int)))) (h' : Hid (∀ j (hj : j < c.length), w.cell? (a'.add j) = some (.int .u8 (c[j].toNat : Int)))) :
    Calls Tryd.prog 125 #[.slice (some a) b.length p, .slice (some a') c.length p'] w fun e w' => e = .returned (.int .i64 (bytesOrd b c)) ∧ w = w' := by
  have hf := run_compare w b c a a' p p' h.out h'.out
  go_enter Tryd.func125, Tryd.ntmps125
  go_wp2
  go_ret
  exact ⟨rfl, rfl⟩

set_option maxRecDepth 100000 in
set_option maxHeartbeats 1000000 in
theorem colz_blob (w : World) (b c : List UInt8) (a a' : Addr) (p p' : Nat) (h : Hid (∀ j (hj : j < b.length), w.cell? (a.add j) = some (.int .u8 (b[j].toNat : Int)))) (h' : Hid (∀ j (hj : j < c.length), w.cell? (a'.add j) = some (.int .u8 (c[j].toNat : Int)))) :
    Calls Tryd.prog 97 #[.iface 202 (.slice (some a) b.length p), .iface 202 (.slice (some a') c.length p')] w fun e w' => e = .returned (.int .i64 (bytesOrd b c)) ∧ w = w' := by
  go_enter Tryd.func97, Tryd.ntmps97
  go_wp2_with (go_at_call 125; refine (compare_any _ b c a a' p p' h h').mono ?_; rintro e w1 ⟨rfl, rfl⟩)
  go_ret
  exact ⟨rfl, rfl⟩

theorem col_blob (b c : List UInt8) (u v : Value) (w : World) (hu : Rep w (.blob b) u) (hv : Rep w (.blob c) v) :
    Calls Tryd.prog 97 #[u, v] w fun e w' => e = .returned (.int .i64 (bytesOrd b c)) ∧ Below w.heap.size w w' := by
  obtain ⟨a, p, rfl, _, h⟩ := hu
  obtain ⟨a', p', rfl, _, h'⟩ := hv
  exact (colz_blob w b c a a' p p' h h').mono fun _ _ ⟨h1, h2⟩ => ⟨h1, by subst h2; exact Below.refl _ _⟩

end Go.Proofs.YtffgkocokkhahaaDoor

/- ql.collate1 of any two values that are no literals and no NaN; impl.Collate, impl.Rank. PRINTED BY wip/tpl/gen_coc.py. -/
namespace Go.Proofs.YtffgkocokkhahaaDoor
open Go.RowKit

theorem coll_int_same (k : IntKind) (b m : Int) : SV.coll (.int k b) (.int k m) = three (decide (b < m)) (b == m) := by simp [SV.coll]

def ColP (c : Int) (w : World) (e : Ending) (w' : World) : Prop := e = .returned (.int .i64 c) ∧ Below w.heap.size w w'

theorem colP_of {c : Int} {u v : Value} {w : World} (h : Calls Tryd.prog 97 #[u, v] w fun e w' => e = .returned (.int .i64 c) ∧ w = w') : Calls Tryd.prog 97 #[u, v] w (ColP c w) :=
  h.mono fun _ _ ⟨h1, h2⟩ => ⟨h1, by subst h2; exact Below.refl _ _⟩

/-- A value that is not NULL, of a type that is not T. -/
theorem shape_nn {w : World} {y : SV} {v : Value} (h : Rep w y v) (hy : y.isLit = false) (h0 : y.rank ≠ 0) (T : TypeId) (hT : y.ty ≠ T) : ∃ V z, v = .iface V z ∧ V ≠ T ∧ V ≠ 252 ∧ V ≠ 249 ∧ V ≠ 250 ∧ V ≠ 251 := by
  rcases shape_not h hy T hT with rfl | h
  · cases y with
    | null => exact absurd rfl h0
    | blob l => obtain ⟨a, cap, h, _⟩ := h; cases h
    | _ => cases h
  · exact h

theorem plain_lit {x : SV} (h : x.plain) : x.isLit = false := by cases x <;> first | rfl | exact h.elim

theorem cou_bool (b : Bool) (y : SV) (u v : Value) (w : World) (hu : Rep w (SV.bool b) u) (hv : Rep w y v) (hy : y.isLit = false) (h0 : y.rank ≠ 0) (hT : y.ty ≠ 4) :
    Calls Tryd.prog 97 #[u, v] w (ColP (-1) w) := by
  have hd := diff_rep (SV.bool b) y u v w hu hv
  obtain ⟨V, z, rfl, b0, b1, b2, b3, b4⟩ := shape_nn hv hy h0 4 hT
  obtain rfl : u = _ := hu
  exact colP_of (cox_bool _ z V _ w hd b0 b1 b2 b3 b4)

theorem cou_f32 (b : Nat) (y : SV) (u v : Value) (w : World) (hu : Rep w (SV.f32 b) u) (hv : Rep w y v) (hy : y.isLit = false) (h0 : y.rank ≠ 0) (hT : y.ty ≠ 121) :
    Calls Tryd.prog 97 #[u, v] w (ColP (byRank (SV.f32 b) y) w) := by
  have hd := diff_rep (SV.f32 b) y u v w hu hv
  obtain ⟨V, z, rfl, b0, b1, b2, b3, b4⟩ := shape_nn hv hy h0 121 hT
  obtain rfl : u = _ := hu
  exact colP_of (cox_f32 _ z V _ w hd b0 b1 b2 b3 b4)

theorem cou_f64 (b : Nat) (y : SV) (u v : Value) (w : World) (hu : Rep w (SV.f64 b) u) (hv : Rep w y v) (hy : y.isLit = false) (h0 : y.rank ≠ 0) (hT : y.ty ≠ 56) :
    Calls Tryd.prog 97 #[u, v] w (ColP (byRank (SV.f64 b) y) w) := by
  have hd := diff_rep (SV.f64 b) y u v w hu hv
  obtain ⟨V, z, rfl, b0, b1, b2, b3, b4⟩ := shape_nn hv hy h0 56 hT
  obtain rfl : u = _ := hu
  exact colP_of (cox_f64 _ z V _ w hd b0 b1 b2 b3 b4)

theorem cou_str (b : ByteArray) (y : SV) (u v : Value) (w : World) (hu : Rep w (SV.str b) u) (hv : Rep w y v) (hy : y.isLit = false) (h0 : y.rank ≠ 0) (hT : y.ty ≠ 9) :
    Calls Tryd.prog 97 #[u, v] w (ColP (byRank (SV.str b) y) w) := by
  have hd := diff_rep (SV.str b) y u v w hu hv
  obtain ⟨V, z, rfl, b0, b1, b2, b3, b4⟩ := shape_nn hv hy h0 9 hT
  obtain rfl : u = _ := hu
  exact colP_of (cox_str _ z V _ w hd b0 b1 b2 b3 b4)

theorem cou_blob (b : List UInt8) (y : SV) (u v : Value) (w : World) (hu : Rep w (SV.blob b) u) (hv : Rep w y v) (hy : y.isLit = false) (h0 : y.rank ≠ 0) (hT : y.ty ≠ 202) :
    Calls Tryd.prog 97 #[u, v] w (ColP (byRank (SV.blob b) y) w) := by
  have hd := diff_rep (SV.blob b) y u v w hu hv
  obtain ⟨V, z, rfl, b0, b1, b2, b3, b4⟩ := shape_nn hv hy h0 202 hT
  obtain ⟨a, cap, rfl, _⟩ := hu
  exact colP_of (cox_blob _ z V _ w hd b0 b1 b2 b3 b4)

theorem cou_i8 (b : Int) (y : SV) (u v : Value) (w : World) (hu : Rep w (SV.int .i8 b) u) (hv : Rep w y v) (hy : y.isLit = false) (h0 : y.rank ≠ 0) (hT : y.ty ≠ (kindT .i8)) :
    Calls Tryd.prog 97 #[u, v] w (ColP (byRank (SV.int .i8 b) y) w) := by
  have hd := diff_rep (SV.int .i8 b) y u v w hu hv
  obtain ⟨V, z, rfl, b0, b1, b2, b3, b4⟩ := shape_nn hv hy h0 (kindT .i8) hT
  obtain rfl : u = _ := hu
  exact colP_of (cox_i8 _ z V _ w hd b0 b1 b2 b3 b4)

theorem cou_i16 (b : Int) (y : SV) (u v : Value) (w : World) (hu : Rep w (SV.int .i16 b) u) (hv : Rep w y v) (hy : y.isLit = false) (h0 : y.rank ≠ 0) (hT : y.ty ≠ (kindT .i16)) :
    Calls Tryd.prog 97 #[u, v] w (ColP (byRank (SV.int .i16 b) y) w) := by
  have hd := diff_rep (SV.int .i16 b) y u v w hu hv
  obtain ⟨V, z, rfl, b0, b1, b2, b3, b4⟩ := shape_nn hv hy h0 (kindT .i16) hT
  obtain rfl : u = _ := hu
  exact colP_of (cox_i16 _ z V _ w hd b0 b1 b2 b3 b4)

theorem cou_i32 (b : Int) (y : SV) (u v : Value) (w : World) (hu : Rep w (SV.int .i32 b) u) (hv : Rep w y v) (hy : y.isLit = false) (h0 : y.rank ≠ 0) (hT : y.ty ≠ (kindT .i32)) :
    Calls Tryd.prog 97 #[u, v] w (ColP (byRank (SV.int .i32 b) y) w) := by
  have hd := diff_rep (SV.int .i32 b) y u v w hu hv
  obtain ⟨V, z, rfl, b0, b1, b2, b3, b4⟩ := shape_nn hv hy h0 (kindT .i32) hT
  obtain rfl : u = _ := hu
  exact colP_of (cox_i32 _ z V _ w hd b0 b1 b2 b3 b4)

theorem cou_i64 (b : Int) (y : SV) (u v : Value) (w : World) (hu : Rep w (SV.int .i64 b) u) (hv : Rep w y v) (hy : y.isLit = false) (h0 : y.rank ≠ 0) (hT : y.ty ≠ (kindT .i64)) :
    Calls Tryd.prog 97 #[u, v] w (ColP (byRank (SV.int .i64 b) y) w) := by
  have hd := diff_rep (SV.int .i64 b) y u v w hu hv
  obtain ⟨V, z, rfl, b0, b1, b2, b3, b4⟩ := shape_nn hv hy h0 (kindT .i64) hT
  obtain rfl : u = _ := hu
  exact colP_of (cox_i64 _ z V _ w hd b0 b1 b2 b3 b4)

theorem cou_u8 (b : Int) (y : SV) (u v : Value) (w : World) (hu : Rep w (SV.int .u8 b) u) (hv : Rep w y v) (hy : y.isLit = false) (h0 : y.rank ≠ 0) (hT : y.ty ≠ (kindT .u8)) :
    Calls Tryd.prog 97 #[u, v] w (ColP (byRank (SV.int .u8 b) y) w) := by
  have hd := diff_rep (SV.int .u8 b) y u v w hu hv
  obtain ⟨V, z, rfl, b0, b1, b2, b3, b4⟩ := shape_nn hv hy h0 (kindT .u8) hT
  obtain rfl : u = _ := hu
  exact colP_of (cox_u8 _ z V _ w hd b0 b1 b2 b3 b4)

theorem cou_u16 (b : Int) (y : SV) (u v : Value) (w : World) (hu : Rep w (SV.int .u16 b) u) (hv : Rep w y v) (hy : y.isLit = false) (h0 : y.rank ≠ 0) (hT : y.ty ≠ (kindT .u16)) :
    Calls Tryd.prog 97 #[u, v] w (ColP (byRank (SV.int .u16 b) y) w) := by
  have hd := diff_rep (SV.int .u16 b) y u v w hu hv
  obtain ⟨V, z, rfl, b0, b1, b2, b3, b4⟩ := shape_nn hv hy h0 (kindT .u16) hT
  obtain rfl : u = _ := hu
  exact colP_of (cox_u16 _ z V _ w hd b0 b1 b2 b3 b4)

theorem cou_u32 (b : Int) (y : SV) (u v : Value) (w : World) (hu : Rep w (SV.int .u32 b) u) (hv : Rep w y v) (hy : y.isLit = false) (h0 : y.rank ≠ 0) (hT : y.ty ≠ (kindT .u32)) :
    Calls Tryd.prog 97 #[u, v] w (ColP (byRank (SV.int .u32 b) y) w) := by
  have hd := diff_rep (SV.int .u32 b) y u v w hu hv
  obtain ⟨V, z, rfl, b0, b1, b2, b3, b4⟩ := shape_nn hv hy h0 (kindT .u32) hT
  obtain rfl : u = _ := hu
  exact colP_of (cox_u32 _ z V _ w hd b0 b1 b2 b3 b4)

theorem cou_u64 (b : Int) (y : SV) (u v : Value) (w : World) (hu : Rep w (SV.int .u64 b) u) (hv : Rep w y v) (hy : y.isLit = false) (h0 : y.rank ≠ 0) (hT : y.ty ≠ (kindT .u64)) :
    Calls Tryd.prog 97 #[u, v] w (ColP (byRank (SV.int .u64 b) y) w) := by
  have hd := diff_rep (SV.int .u64 b) y u v w hu hv
  obtain ⟨V, z, rfl, b0, b1, b2, b3, b4⟩ := shape_nn hv hy h0 (kindT .u64) hT
  obtain rfl : u = _ := hu
  exact colP_of (cox_u64 _ z V _ w hd b0 b1 b2 b3 b4)

theorem coll1_any (x y : SV) (px : x.plain) (py : y.plain) (u v : Value) (w : World) (hu : Rep w x u) (hv : Rep w y v) :
    Calls Tryd.prog 97 #[u, v] w (ColP (x.coll y) w) := by
  have ly := plain_lit py
  cases x with
  | iInt n => exact px.elim
  | iRune n => exact px.elim
  | iUint n => exact px.elim
  | iFloat n => exact px.elim
  | null =>
    obtain rfl : u = _ := hu
    cases y with
    | null => obtain rfl : v = _ := hv; exact colP_of (con_null w)
    | blob l => obtain ⟨a, cap, rfl, _⟩ := hv; exact colP_of (cox_null _ _ w)
    | iInt n => exact py.elim
    | iRune n => exact py.elim
    | iUint n => exact py.elim
    | iFloat n => exact py.elim
    | _ => obtain rfl : v = _ := hv; exact colP_of (cox_null _ _ w)
  | bool b =>
    cases y with
    | null => obtain rfl : v = _ := hv; obtain rfl : u = _ := hu; exact colP_of (con_bool _ w)
    | iInt n => exact py.elim
    | iRune n => exact py.elim
    | iUint n => exact py.elim
    | iFloat n => exact py.elim
    | bool c => obtain rfl : u = _ := hu; obtain rfl : v = _ := hv; exact colP_of (col_bool b c w)
    | int k m => exact cou_bool b _ u v w hu hv ly (by cases k <;> simp [SV.rank, kindRank]) (by cases k <;> simp [SV.ty, kindT])
    | _ => exact cou_bool b _ u v w hu hv ly (by simp [SV.rank]) (by simp [SV.ty])
  | f32 b =>
    cases y with
    | null => obtain rfl : v = _ := hv; obtain rfl : u = _ := hu; exact colP_of (con_f32 _ w)
    | iInt n => exact py.elim
    | iRune n => exact py.elim
    | iUint n => exact py.elim
    | iFloat n => exact py.elim
    | f32 c => obtain rfl : u = _ := hu; obtain rfl : v = _ := hv; exact colP_of (col_f32 b c w)
    | int k m => exact cou_f32 b _ u v w hu hv ly (by cases k <;> simp [SV.rank, kindRank]) (by cases k <;> simp [SV.ty, kindT])
    | _ => exact cou_f32 b _ u v w hu hv ly (by simp [SV.rank]) (by simp [SV.ty])
  | f64 b =>
    cases y with
    | null => obtain rfl : v = _ := hv; obtain rfl : u = _ := hu; exact colP_of (con_f64 _ w)
    | iInt n => exact py.elim
    | iRune n => exact py.elim
    | iUint n => exact py.elim
    | iFloat n => exact py.elim
    | f64 c => obtain rfl : u = _ := hu; obtain rfl : v = _ := hv; exact colP_of (col_f64 b c w)
    | int k m => exact cou_f64 b _ u v w hu hv ly (by cases k <;> simp [SV.rank, kindRank]) (by cases k <;> simp [SV.ty, kindT])
    | _ => exact cou_f64 b _ u v w hu hv ly (by simp [SV.rank]) (by simp [SV.ty])
  | str b =>
    cases y with
    | null => obtain rfl : v = _ := hv; obtain rfl : u = _ := hu; exact colP_of (con_str _ w)
    | iInt n => exact py.elim
    | iRune n => exact py.elim
    | iUint n => exact py.elim
    | iFloat n => exact py.elim
    | str c => obtain rfl : u = _ := hu; obtain rfl : v = _ := hv; exact colP_of (col_str b c w)
    | int k m => exact cou_str b _ u v w hu hv ly (by cases k <;> simp [SV.rank, kindRank]) (by cases k <;> simp [SV.ty, kindT])
    | _ => exact cou_str b _ u v w hu hv ly (by simp [SV.rank]) (by simp [SV.ty])
  | blob b =>
    cases y with
    | null => obtain rfl : v = _ := hv; obtain ⟨a, cap, rfl, _⟩ := hu; exact colP_of (con_blob _ w)
    | iInt n => exact py.elim
    | iRune n => exact py.elim
    | iUint n => exact py.elim
    | iFloat n => exact py.elim
    | blob c => exact col_blob b c u v w hu hv
    | int k m => exact cou_blob b _ u v w hu hv ly (by cases k <;> simp [SV.rank, kindRank]) (by cases k <;> simp [SV.ty, kindT])
    | _ => exact cou_blob b _ u v w hu hv ly (by simp [SV.rank]) (by simp [SV.ty])
  | int k b =>
    cases k
    case i8 =>
      cases y with
      | null => obtain rfl : v = _ := hv; obtain rfl : u = _ := hu; exact colP_of (con_i8 _ w)
      | iInt n => exact py.elim
      | iRune n => exact py.elim
      | iUint n => exact py.elim
      | iFloat n => exact py.elim
      | int l m =>
        by_cases hl : IntKind.i8 = l
        · subst hl
          obtain rfl : u = _ := hu
          obtain rfl : v = _ := hv
          rw [show SV.coll (.int .i8 b) (.int .i8 m) = three (decide (b < m)) (b == m) from coll_int_same _ _ _]
          exact colP_of (col_i8 b m w)
        · rw [show SV.coll (.int .i8 b) (.int l m) = byRank (.int .i8 b) (.int l m) from if_neg hl]
          exact cou_i8 b _ u v w hu hv ly (by cases l <;> simp [SV.rank, kindRank]) (by cases l <;> first | exact absurd rfl hl | simp [SV.ty, kindT])
      | _ => exact cou_i8 b _ u v w hu hv ly (by simp [SV.rank]) (by simp [SV.ty, kindT])
    case i16 =>
      cases y with
      | null => obtain rfl : v = _ := hv; obtain rfl : u = _ := hu; exact colP_of (con_i16 _ w)
      | iInt n => exact py.elim
      | iRune n => exact py.elim
      | iUint n => exact py.elim
      | iFloat n => exact py.elim
      | int l m =>
        by_cases hl : IntKind.i16 = l
        · subst hl
          obtain rfl : u = _ := hu
          obtain rfl : v = _ := hv
          rw [show SV.coll (.int .i16 b) (.int .i16 m) = three (decide (b < m)) (b == m) from coll_int_same _ _ _]
          exact colP_of (col_i16 b m w)
        · rw [show SV.coll (.int .i16 b) (.int l m) = byRank (.int .i16 b) (.int l m) from if_neg hl]
          exact cou_i16 b _ u v w hu hv ly (by cases l <;> simp [SV.rank, kindRank]) (by cases l <;> first | exact absurd rfl hl | simp [SV.ty, kindT])
      | _ => exact cou_i16 b _ u v w hu hv ly (by simp [SV.rank]) (by simp [SV.ty, kindT])
    case i32 =>
      cases y with
      | null => obtain rfl : v = _ := hv; obtain rfl : u = _ := hu; exact colP_of (con_i32 _ w)
      | iInt n => exact py.elim
      | iRune n => exact py.elim
      | iUint n => exact py.elim
      | iFloat n => exact py.elim
      | int l m =>
        by_cases hl : IntKind.i32 = l
        · subst hl
          obtain rfl : u = _ := hu
          obtain rfl : v = _ := hv
          rw [show SV.coll (.int .i32 b) (.int .i32 m) = three (decide (b < m)) (b == m) from coll_int_same _ _ _]
          exact colP_of (col_i32 b m w)
        · rw [show SV.coll (.int .i32 b) (.int l m) = byRank (.int .i32 b) (.int l m) from if_neg hl]
          exact cou_i32 b _ u v w hu hv ly (by cases l <;> simp [SV.rank, kindRank]) (by cases l <;> first | exact absurd rfl hl | simp [SV.ty, kindT])
      | _ => exact cou_i32 b _ u v w hu hv ly (by simp [SV.rank]) (by simp [SV.ty, kindT])
    case i64 =>
      cases y with
      | null => obtain rfl : v = _ := hv; obtain rfl : u = _ := hu; exact colP_of (con_i64 _ w)
      | iInt n => exact py.elim
      | iRune n => exact py.elim
      | iUint n => exact py.elim
      | iFloat n => exact py.elim
      | int l m =>
        by_cases hl : IntKind.i64 = l
        · subst hl
          obtain rfl : u = _ := hu
          obtain rfl : v = _ := hv
          rw [show SV.coll (.int .i64 b) (.int .i64 m) = three (decide (b < m)) (b == m) from coll_int_same _ _ _]
          exact colP_of (col_i64 b m w)
        · rw [show SV.coll (.int .i64 b) (.int l m) = byRank (.int .i64 b) (.int l m) from if_neg hl]
          exact cou_i64 b _ u v w hu hv ly (by cases l <;> simp [SV.rank, kindRank]) (by cases l <;> first | exact absurd rfl hl | simp [SV.ty, kindT])
      | _ => exact cou_i64 b _ u v w hu hv ly (by simp [SV.rank]) (by simp [SV.ty, kindT])
    case u8 =>
      cases y with
      | null => obtain rfl : v = _ := hv; obtain rfl : u = _ := hu; exact colP_of (con_u8 _ w)
      | iInt n => exact py.elim
      | iRune n => exact py.elim
      | iUint n => exact py.elim
      | iFloat n => exact py.elim
      | int l m =>
        by_cases hl : IntKind.u8 = l
        · subst hl
          obtain rfl : u = _ := hu
          obtain rfl : v = _ := hv
          rw [show SV.coll (.int .u8 b) (.int .u8 m) = three (decide (b < m)) (b == m) from coll_int_same _ _ _]
          exact colP_of (col_u8 b m w)
        · rw [show SV.coll (.int .u8 b) (.int l m) = byRank (.int .u8 b) (.int l m) from if_neg hl]
          exact cou_u8 b _ u v w hu hv ly (by cases l <;> simp [SV.rank, kindRank]) (by cases l <;> first | exact absurd rfl hl | simp [SV.ty, kindT])
      | _ => exact cou_u8 b _ u v w hu hv ly (by simp [SV.rank]) (by simp [SV.ty, kindT])
    case u16 =>
      cases y with
      | null => obtain rfl : v = _ := hv; obtain rfl : u = _ := hu; exact colP_of (con_u16 _ w)
      | iInt n => exact py.elim
      | iRune n => exact py.elim
      | iUint n => exact py.elim
      | iFloat n => exact py.elim
      | int l m =>
        by_cases hl : IntKind.u16 = l
        · subst hl
          obtain rfl : u = _ := hu
          obtain rfl : v = _ := hv
          rw [show SV.coll (.int .u16 b) (.int .u16 m) = three (decide (b < m)) (b == m) from coll_int_same _ _ _]
          exact colP_of (col_u16 b m w)
        · rw [show SV.coll (.int .u16 b) (.int l m) = byRank (.int .u16 b) (.int l m) from if_neg hl]
          exact cou_u16 b _ u v w hu hv ly (by cases l <;> simp [SV.rank, kindRank]) (by cases l <;> first | exact absurd rfl hl | simp [SV.ty, kindT])
      | _ => exact cou_u16 b _ u v w hu hv ly (by simp [SV.rank]) (by simp [SV.ty, kindT])
    case u32 =>
      cases y with
      | null => obtain rfl : v = _ := hv; obtain rfl : u = _ := hu; exact colP_of (con_u32 _ w)
      | iInt n => exact py.elim
      | iRune n => exact py.elim
      | iUint n => exact py.elim
      | iFloat n => exact py.elim
      | int l m =>
        by_cases hl : IntKind.u32 = l
        · subst hl
          obtain rfl : u = _ := hu
          obtain rfl : v = _ := hv
          rw [show SV.coll (.int .u32 b) (.int .u32 m) = three (decide (b < m)) (b == m) from coll_int_same _ _ _]
          exact colP_of (col_u32 b m w)
        · rw [show SV.coll (.int .u32 b) (.int l m) = byRank (.int .u32 b) (.int l m) from if_neg hl]
          exact cou_u32 b _ u v w hu hv ly (by cases l <;> simp [SV.rank, kindRank]) (by cases l <;> first | exact absurd rfl hl | simp [SV.ty, kindT])
      | _ => exact cou_u32 b _ u v w hu hv ly (by simp [SV.rank]) (by simp [SV.ty, kindT])
    case u64 =>
      cases y with
      | null => obtain rfl : v = _ := hv; obtain rfl : u = _ := hu; exact colP_of (con_u64 _ w)
      | iInt n => exact py.elim
      | iRune n => exact py.elim
      | iUint n => exact py.elim
      | iFloat n => exact py.elim
      | int l m =>
        by_cases hl : IntKind.u64 = l
        · subst hl
          obtain rfl : u = _ := hu
          obtain rfl : v = _ := hv
          rw [show SV.coll (.int .u64 b) (.int .u64 m) = three (decide (b < m)) (b == m) from coll_int_same _ _ _]
          exact colP_of (col_u64 b m w)
        · rw [show SV.coll (.int .u64 b) (.int l m) = byRank (.int .u64 b) (.int l m) from if_neg hl]
          exact cou_u64 b _ u v w hu hv ly (by cases l <;> simp [SV.rank, kindRank]) (by cases l <;> first | exact absurd rfl hl | simp [SV.ty, kindT])
      | _ => exact cou_u64 b _ u v w hu hv ly (by simp [SV.rank]) (by simp [SV.ty, kindT])


theorem order_self32 {x : Nat} (h : (Ieee.single.read x).isNaN = false) : Ieee.single.order x x = some .eq := by
  unfold Ieee.Format.order
  cases hd : Ieee.single.read x with
  | nan s t => rw [hd] at h; cases h
  | infinity s => cases s <;> rfl
  | number s m p =>
    simp only [Ieee.Datum.order]
    generalize Ieee.signed s m _ = z
    have : compare z z = Ordering.eq := by simp [compare, compareOfLessAndEq]
    rw [this]

theorem conc_sv {K : Kd} {n u : Int} {f : Nat} {s : ByteArray} (h : concB K n u f s = true) : (∀ y, SVof K n u f s y → y = toSV K n u f s) ∧ (toSV K n u f s).plain := by
  have hv := conc_valid h
  unfold concB at h
  simp only [Bool.and_eq_true, Bool.not_eq_true'] at h
  obtain ⟨⟨_, hi⟩, hn⟩ := h
  refine ⟨fun y hy => ?_, ?_⟩
  · unfold SVof at hy
    rw [if_neg (fun hh => by rw [hn] at hh; exact absurd hh.2 (by decide))] at hy
    exact hy
  · have hd : (Ieee.double.read f).isNaN = false := by rw [numB_nan] at hn; simpa using hn
    cases K with
    | f32 =>
      show Ieee.single.order _ _ = some .eq
      exact order_self32 (down_num hd)
    | f64 =>
      show Ieee.double.order _ _ = some .eq
      simpa [numB] using hn
    | iInt => exact absurd hi (by decide)
    | iRune => exact absurd hi (by decide)
    | iUint => exact absurd hi (by decide)
    | iFloat => exact absurd hi (by decide)
    | _ => trivial


end Go.Proofs.YtffgkocokkhahaaDoor

/- The order of two values is one of three numbers. -/
namespace Go.Proofs.YtffgkocokkhahaaDoor

theorem coll_three (x y : SV) (px : x.plain) (py : y.plain) : x.coll y = -1 ∨ x.coll y = 0 ∨ x.coll y = 1 := by
  rw [coll_lex px py]
  have hz : bytesOrd x.text y.text = -1 ∨ bytesOrd x.text y.text = 0 ∨ bytesOrd x.text y.text = 1 := by
    rcases bytesOrd_cases x.text y.text with ⟨h, _⟩ | ⟨h, _⟩ | ⟨h, _⟩ <;> simp [h]
  unfold SV.lex
  generalize bytesOrd x.text y.text = z at *
  repeat' split
  all_goals omega

end Go.Proofs.YtffgkocokkhahaaDoor

/- ql.collate of two lists of as many values, each of a type and a number. -/
namespace Go.Proofs.YtffgkocokkhahaaDoor
open Go.RowKit

def VV.sv (x : VV) : SV := toSV (Kd.of x.k.toList) x.n x.u x.f x.s

/-- The first order that is found. -/
def collV : List VV → List VV → Int
  | x :: l, y :: m => if x.sv.coll y.sv = 0 then collV l m else x.sv.coll y.sv
  | _, _ => 0

theorem collV_at : ∀ (k : Nat) (l m : List VV) (x y : VV), (∀ (j : Nat) (x y : VV), j < k → l[j]? = some x → m[j]? = some y → x.sv.coll y.sv = 0) → l[k]? = some x → m[k]? = some y → x.sv.coll y.sv ≠ 0 → collV l m = x.sv.coll y.sv
  | _, [], _, _, _, _, hx, _, _ => by simp at hx
  | _, _ :: _, [], _, _, _, _, hy, _ => by simp at hy
  | 0, a :: l, b :: m, x, y, _, hx, hy, hne => by
    obtain rfl : a = x := by simpa using hx
    obtain rfl : b = y := by simpa using hy
    rw [collV, if_neg hne]
  | k + 1, a :: l, b :: m, x, y, hz, hx, hy, hne => by
    rw [collV, if_pos (hz 0 a b (by omega) rfl rfl)]
    exact collV_at k l m x y (fun j x y hj hx hy => hz (j + 1) x y (by omega) (by simpa using hx) (by simpa using hy)) (by simpa using hx) (by simpa using hy) hne

theorem collV_end : ∀ (l m : List VV), (∀ (j : Nat) (x y : VV), l[j]? = some x → m[j]? = some y → x.sv.coll y.sv = 0) → collV l m = 0
  | [], _, _ => rfl
  | _ :: _, [], _ => rfl
  | a :: l, b :: m, hz => by
    rw [collV, if_pos (hz 0 a b rfl rfl)]
    exact collV_end l m (fun j x y hx hy => hz (j + 1) x y (by simpa using hx) (by simpa using hy))

theorem rep_conc {w : World} {x : VV} {y : SV} {v : Value} (hc : x.conc = true) (hi : x.is y) (h : Rep w y v) : Rep w x.sv v ∧ x.sv.plain := by
  obtain ⟨h1, h2⟩ := conc_sv hc
  obtain rfl := h1 y hi
  exact ⟨h, h2⟩

set_option maxHeartbeats 1000000 in
theorem collate_none (A B : Option Addr) (c d : Nat) (w : World) : Calls Tryd.prog 65 #[.slice A 0 c, .slice B 0 d] w (ColP 0 w) := by
  go_enter Tryd.func65, Tryd.ntmps65
  go_wp2
  go_ret
  exact ⟨rfl, Below.refl _ _⟩

set_option maxHeartbeats 1000000 in
theorem collate_some (l m : List VV) (A B : Option Addr) (n c d : Nat) (vs us : List Value) (hn : 0 < n) (hl : l.length = n) (hm : m.length = n) (hmax : n ≤ 2147483647) (w : World)
    (hA : Reads w w.heap.size 1 A n vs) (hB : Reads w w.heap.size 1 B n us) (hV : RepK w l n vs) (hU : RepK w m n us)
    (hcl : ∀ (j : Nat) (x : VV), l[j]? = some x → x.conc = true) (hcm : ∀ (j : Nat) (x : VV), m[j]? = some x → x.conc = true) :
    Calls Tryd.prog 65 #[.slice A n c, .slice B n d] w (ColP (collV l m) w) := by
  have HA := Lib.hid hA
  have HB := Lib.hid hB
  have HV := Lib.hid hV
  have HU := Lib.hid hU
  have HL := Lib.hid hl
  have HM := Lib.hid hm
  have HCL := Lib.hid hcl
  have HCM := Lib.hid hcm
  clear hA hB hV hU hl hm hcl hcm
  have hn0 : ((n : Int) == 0) = false := by simp; omega
  have hn1 : ((n : Int) != 0) = true := by simp; omega
  go_enter Tryd.func65, Tryd.ntmps65
  go_wp2
  go_loopw [4, 44] (fun r i wr => ∃ k : Nat, k ≤ n ∧ r = .int .i64 1 ∧ i = .int .i64 k ∧ Below w.heap.size w wr ∧ ∀ (j : Nat) (x y : VV), j < k → l[j]? = some x → m[j]? = some y → x.sv.coll y.sv = 0) (fun _ i _ => n - (intOf i).toNat)
  case atStart => exact ⟨0, by omega, rfl, rfl, Below.refl _ _, fun _ _ _ h => by omega⟩
  case round =>
    obtain ⟨k, hk, rfl, rfl, hb, hall⟩ := hrel
    have HZ := Lib.hid hall
    have HBw := Lib.hid hb
    have hs := hb.size
    clear hall
    by_cases hlt : k < n
    · obtain ⟨x, hx⟩ : ∃ x, l[k]? = some x := ⟨_, List.getElem?_eq_getElem (by rw [HL.out]; exact hlt)⟩
      obtain ⟨y, hy⟩ : ∃ y, m[k]? = some y := ⟨_, List.getElem?_eq_getElem (by rw [HM.out]; exact hlt)⟩
      obtain ⟨ad, u, rfl, hbu, hu, hcu⟩ := (HA.out.below hb).at_ hlt
      obtain ⟨bd, v, rfl, hbv, hv, hcv⟩ := (HB.out.below hb).at_ hlt
      obtain ⟨x', hi1, hr1⟩ := (HV.out.below hb).2 k x u hx hu
      obtain ⟨y', hi2, hr2⟩ := (HU.out.below hb).2 k y v hy hv
      obtain ⟨hr1, hp1⟩ := rep_conc (HCL.out k x hx) hi1 hr1
      obtain ⟨hr2, hp2⟩ := rep_conc (HCM.out k y hy) hi2 hr2
      have HC := Lib.hid (fun W (hW : Below wr.heap.size wr W) => coll1_any x.sv y.sv hp1 hp2 u v W (hr1.below hW) (hr2.below hW))
      have HX := Lib.hid hx
      have HY := Lib.hid hy
      have HT := Lib.hid (coll_three x.sv y.sv hp1 hp2)
      have HE := Lib.hid (fun h => collV_at k l m x y HZ.out hx hy h)
      clear hx hy hu hv hi1 hi2 hr1 hr2 hp1 hp2 hb
      obtain ⟨cc, hcc⟩ : ∃ cc, cc = x.sv.coll y.sv := ⟨_, rfl⟩
      rw [← hcc] at HC HT HE
      have HCC := Lib.hid hcc
      clear hcc
      cases hz : (cc == 0) with
      | true =>
        obtain rfl : cc = 0 := by simpa using hz
        go_wp2_with (go_at_call 97; refine (HC.out _ (Below.refl _ _)).mono ?_; rintro e w1 ⟨rfl, hb1⟩)
        refine ⟨⟨k + 1, by omega, rfl, by push_cast; rfl, up_below' HBw.out hb1, fun j a b hj ha hb => ?_⟩, by simp [intOf]; omega⟩
        rcases Nat.lt_or_ge j k with h | h
        · exact HZ.out j a b h ha hb
        · obtain rfl : j = k := by omega
          obtain rfl : a = x := Option.some.inj (ha.symm.trans HX.out)
          obtain rfl : b = y := Option.some.inj (hb.symm.trans HY.out)
          exact HCC.out.symm
      | false =>
        have hz2 : (cc != 0) = true := by simpa using hz
        have hv := HE.out (by simpa using hz)
        have HVV := Lib.hid hv
        clear hv
        rcases HT.out with rfl | rfl | rfl
        · go_wp2_with (go_at_call 97; refine (HC.out _ (Below.refl _ _)).mono ?_; rintro e w1 ⟨rfl, hb1⟩)
          go_ret
          exact ⟨by rw [HVV.out]; rfl, up_below' HBw.out hb1⟩
        · cases hz
        · go_wp2_with (go_at_call 97; refine (HC.out _ (Below.refl _ _)).mono ?_; rintro e w1 ⟨rfl, hb1⟩)
          go_ret
          exact ⟨by rw [HVV.out]; rfl, up_below' HBw.out hb1⟩
    · have hke : k = n := by omega
      subst hke
      have he := collV_end l m (fun j x y hx hy => HZ.out j x y (by rw [← HL.out]; exact (List.getElem?_eq_some_iff.1 hx).1) hx hy)
      have HVV := Lib.hid he
      clear he
      go_wp2
      go_ret
      exact ⟨by rw [HVV.out]; rfl, hb⟩

end Go.Proofs.YtffgkocokkhahaaDoor

/- A region that draws its order, whose operations only read old cells and whose callees lay new blocks alone: walked once. Of no program. -/
namespace Go.Proofs.YtffgkocokkhahaaDoor
open Go.RowKit

/-- A world in which everything that W has is as it is in W. -/
structure BW (W : World) where
  w : World
  h : Below W.heap.size W w

instance (W : World) : Inhabited (BW W) := ⟨⟨W, Below.refl _ _⟩⟩

theorem wp_region_bw {P : Program} {id : Nat} {Q : Exit → Act → World → Prop} {a : Act} {W : World} {l : List Oper} (hm : P.follows .mixedOrders = true) (hB : Region.lexB .any l.toArray = true)
    (h : wpQuiet P l.toArray (fun w' => ∃ p : BW W, w' = p.w) (fun a' => ∀ w', (∃ p : BW W, w' = p.w) → Q .normal a' w') l a) : (Code.region id l.toArray true).wp P Q a W :=
  wp_region_quiet (C := fun w' => ∃ p : BW W, w' = p.w) hm hB ⟨⟨_, (Below.refl _ _).drew⟩, rfl⟩ (by simpa using h)

@[go_sem] theorem BW.cell {W : World} (p : BW W) (b o : Nat) (hb : b < W.heap.size) : p.w.cell? ⟨b, o, none⟩ = W.cell? ⟨b, o, none⟩ := p.h.cell (p := ⟨b, o, none⟩) hb
@[go_sem] theorem BW.frozen {W : World} (p : BW W) (b o : Nat) (hb : b < W.heap.size) : p.w.frozen? ⟨b, o, none⟩ = W.frozen? ⟨b, o, none⟩ := p.h.frozen (p := ⟨b, o, none⟩) hb

theorem bw_of {P : Program} {f : FuncId} {args : Array Value} {W : World} {p : BW W} {v : Value}
    (h : Calls P f args p.w fun e w' => e = .returned v ∧ Below p.w.heap.size p.w w') : Calls P f args p.w fun e w'' => e = .returned v ∧ ∃ q : BW W, w'' = q.w :=
  h.mono fun _ _ ⟨he, hb⟩ => ⟨he, ⟨_, p.h.trans (hb.mono p.h.size)⟩, rfl⟩

end Go.Proofs.YtffgkocokkhahaaDoor

/- impl.CollateRows and impl.KeyCompare of two lists of as many values, each of a type and a number. -/
namespace Go.Proofs.YtffgkocokkhahaaDoor
open Go.RowKit

/-- A list of values that are each of a type and a number. -/
def ConcL (l : List VV) : Prop := ∀ (j : Nat) (x : VV), l[j]? = some x → x.conc = true ∧ Rng x.n x.u x.f

theorem ConcL.good {l : List VV} (h : ConcL l) : ∀ (j : Nat) (x : VV), l[j]? = some x → x.good := fun j x hx => ⟨(h j x hx).2, conc_valid (h j x hx).1⟩

/-- A list of values as the program has it. -/
def Ins (w : World) (l : List VV) (v : Value) : Prop := ∃ A c vs, v = .slice A l.length c ∧ Reads w w.heap.size 1 A l.length vs ∧ RepK w l l.length vs
theorem Ins.below {w w' : World} {l : List VV} {v : Value} (h : Ins w l v) (hb : Below w.heap.size w w') : Ins w' l v := by
  obtain ⟨A, c, vs, h1, h2, h3⟩ := h
  exact ⟨A, c, vs, h1, h2.below hb, h3.below hb⟩
def InsP (l : List VV) (w : World) (e : Ending) (w' : World) : Prop := ∃ v, e = .returned v ∧ Ins w' l v ∧ Below w.heap.size w w'
theorem ins_v (l : List VV) (A : Option Addr) (c : Nat) (w : World) (hl : LAt w A l) (hg : ConcL l) (hm : l.length ≤ 2147483647) : Calls Tryd.prog 29 #[.slice A l.length c] w (InsP l w) :=
  (ins_any l A c w hl hg.good hm).mono fun _ _ ⟨A', c', vs, he, h1, h2, hb⟩ => ⟨_, he, ⟨A', c', vs, rfl, h1, h2⟩, hb⟩

theorem collate_any (l m : List VV) (hlm : l.length = m.length) (hm : l.length ≤ 2147483647) (hl : ConcL l) (hc : ConcL m) (u v : Value) (w : World) (hu : Ins w l u) (hv : Ins w m v) :
    Calls Tryd.prog 65 #[u, v] w (ColP (collV l m) w) := by
  obtain ⟨A, c, vs, rfl, h1, h2⟩ := hu
  obtain ⟨B, d, us, rfl, h3, h4⟩ := hv
  rw [← hlm] at h3 h4 ⊢
  rcases Nat.eq_zero_or_pos l.length with h0 | h0
  · have e : collV l m = 0 := by
      rw [List.eq_nil_of_length_eq_zero h0]
      rfl
    rw [e, h0]
    exact collate_none A B c d w
  · exact collate_some l m A B l.length c d vs us h0 rfl hlm.symm hm w h1 h3 h2 h4 (fun j x hx => (hl j x hx).1) (fun j x hx => (hc j x hx).1)

set_option maxHeartbeats 400000 in
theorem zzCollate_any (c : Int) (u v : Value) (w : World) (H : Hid (Calls Tryd.prog 65 #[u, v] w (ColP c w))) : Calls Tryd.prog 30 #[u, v] w (ColP c w) := by
  go_enter Tryd.func30, Tryd.ntmps30
  go_wp2_with (go_at_call 65; refine H.out.mono ?_; rintro e w1 ⟨rfl, hb1⟩)
  go_ret
  exact ⟨rfl, hb1⟩

set_option maxHeartbeats 1000000 in
theorem implRows_any (l m : List VV) (A B : Option Addr) (c d : Nat) (hlm : l.length = m.length) (hm : l.length ≤ 2147483647) (hl : ConcL l) (hc : ConcL m) (w : World) (hA : LAt w A l) (hB : LAt w B m) :
    Calls Tryd.prog 16 #[.slice A l.length c, .slice B m.length d, .bool false] w (ColP (collV l m) w) := by
  have HA := Lib.hid (fun w' (h : Below w.heap.size w w') => ins_v l A c w' (hA.below h) hl hm)
  have HB := Lib.hid (fun w' (h : Below w.heap.size w w') => ins_v m B d w' (hB.below h) hc (by rw [← hlm]; exact hm))
  have HC := Lib.hid (fun w' u v hu hv => zzCollate_any _ u v w' (collate_any l m hlm hm hl hc u v w' hu hv))
  clear hA hB hlm hm hl hc
  go_enter Tryd.func16, Tryd.ntmps16
  go_wp2_with (first
    | (go_at_call_of 29 (Value.slice A l.length c); refine (HA.out _ (Below.refl _ _)).mono ?_; rintro e w1 ⟨v1, rfl, hi1, hb1⟩; have HI1 := Lib.hid hi1; clear hi1)
    | (go_at_call 29; refine (HB.out _ hb1).mono ?_; rintro e w2 ⟨v2, rfl, hi2, hb2⟩; have HI2 := Lib.hid hi2; clear hi2)
    | (go_at_call 30; refine (HC.out _ _ _ (HI1.out.below hb2) HI2.out).mono ?_; rintro e w3 ⟨rfl, hb3⟩))
  go_ret
  exact ⟨rfl, up_below' (up_below' hb1 hb2) hb3⟩

/-- Two keys: their values, then their handles. -/
def keyC (c h g : Int) : Int := if c = 0 then h - g else c

end Go.Proofs.YtffgkocokkhahaaDoor

/- impl.ins, and where what it makes lies; data that stay as they are. -/
namespace Go.Proofs.YtffgkocokkhahaaDoor
open Go.RowKit

def InsPost2 (l : List VV) (w : World) (e : Ending) (w' : World) : Prop :=
  ∃ A c vs, e = .returned (.slice A l.length c) ∧ Reads w' w'.heap.size 1 A l.length vs ∧ RepK w' l l.length vs ∧ Below w.heap.size w w' ∧ (∀ ad, A = some ad → w.heap.size ≤ ad.block) ∧ ∀ (j : Nat) (v : Value), vs[j]? = some v → From w.heap.size v

theorem from_more {B C : Nat} {vs : List Value} {v : Value} (h : ∀ (j : Nat) (v : Value), vs[j]? = some v → From B v) (hv : From C v) (hBC : B ≤ C) : ∀ (j : Nat) (u : Value), (vs ++ [v])[j]? = some u → From B u := by
  intro j u hu
  have hm : u ∈ vs ++ [v] := List.mem_of_getElem? hu
  rcases List.mem_append.1 hm with h' | h'
  · obtain ⟨i, hi⟩ := List.getElem?_of_mem h'
    exact h i u hi
  · have : u = v := by simpa using h'
    subst this
    exact fun t a n c e => Nat.le_trans hBC (hv t a n c e)

theorem own_from {w : World} {B : Nat} {e : TypeId} {size n c : Nat} {A : Option Addr} {xs : List Value} (h : w.ownsRow B e size (.slice A n c) n xs) : ∀ ad, A = some ad → B ≤ ad.block := by
  intro ad hA
  rcases h.2 with ⟨h2, _⟩ | ⟨g, cap, cur, e1, e2, _⟩
  · injection h2 with h2
    rw [h2] at hA
    cases hA
  · injection e1 with e1
    rw [hA] at e1
    injection e1 with e1
    subst e1
    exact e2

set_option maxHeartbeats 1000000 in
theorem ins2_all (l : List VV) (A : Option Addr) (c : Nat) (w : World) (hl : LAt w A l) (hgood : ∀ (j : Nat) (x : VV), l[j]? = some x → x.good) (hm : l.length ≤ 2147483647) :
    Calls Tryd.prog 29 #[.slice A l.length c] w (InsPost2 l w) := by
  obtain ⟨i0, hi, hz0, hz1, hz2⟩ := info_parts info_iface
  obtain ⟨len, hlen⟩ : ∃ len, len = l.length := ⟨_, rfl⟩
  have HL := Lib.hid hl
  have HN := Lib.hid hlen
  have HI := Lib.hid (fun (x : VV) (hg : x.good) w => in2_any x hg w)
  have HG := Lib.hid hgood
  unfold InsPost2
  rw [← hlen] at hm ⊢
  clear hl hlen hgood
  go_enter Tryd.func29, Tryd.ntmps29
  go_wp2
  go_loopw [3, 8] (fun r i wr => ∃ (k : Nat) (vs : List Value), k ≤ len ∧ i = .int .i64 k ∧ wr.ownsRow w.heap.size 20 1 r k vs ∧ RepK wr l k vs ∧ Apart vs r.ownBlock ∧ (∀ (j : Nat) (v : Value), vs[j]? = some v → From w.heap.size v) ∧ Below w.heap.size w wr) (fun _ i _ => len - (intOf i).toNat)
  case atStart => exact ⟨0, [], by omega, rfl, World.ownsRow_nil _ _ _ _, ⟨rfl, fun j x v _ h => by simp at h⟩, fun j v h => by simp at h, fun j v h => by simp at h, Below.refl _ _⟩
  case round =>
    obtain ⟨k, vs, hk, rfl, hown, hrep, hap, hfr, hb⟩ := hrel
    have HFR := Lib.hid hfr
    have HO := Lib.hid hown
    have HR := Lib.hid hrep
    have HP := Lib.hid hap
    have HB := Lib.hid hb
    have hs := hb.size
    clear hown hrep hap hfr
    by_cases hlt : k < len
    · have hlt2 : k < l.length := by rw [← HN.out]; exact hlt
      obtain ⟨x, hx'⟩ : ∃ x, l[k]? = some x := ⟨_, List.getElem?_eq_getElem hlt2⟩
      have HX := Lib.hid hx'
      have HX2 := Lib.hid (HI.out x (HG.out k x hx'))
      have HT := Lib.hid hlt2
      obtain ⟨ad, rfl, hbl, h0, h1, h2, h3, h4⟩ := (HL.out.below hb) k x hx'
      clear hx' hlt2 hb
      go_wp2_with (first
        | (go_at_call 64; refine (HX2.out _).mono ?_; rintro e w1 ⟨v, y, rfl, hrv, hb1, hsv, hnew⟩; have HV := Lib.hid hrv; have HS := Lib.hid hsv; have HW := Lib.hid hnew; have HB1 := Lib.hid hb1; clear hsv hnew hb1; rcases rep_form hrv with rfl | ⟨tv, uv, rfl⟩ <;> clear hrv)
        | (at_builtin
           refine wpList_append_any _ rfl (.tmp 12) (.tmp 15) _ rfl w.heap.size 20 i0 _ 1 16 Tryd.underlying77 hi hz0 hz1 hz2 rfl (by omega) u3 k vs rfl
             ((own_below (HO.out.alloc _) HB1.out).alloc _) (w1.heap.size + 1) (some ⟨w1.heap.size, 0, none⟩) 1 1 [_] rfl (reads_new _ _ _) (fun u hu => by simp at hu; subst hu; exact rep_one HV.out) (by simp only [maxLen]; omega) (by omega) (by have := HB1.out.size; simp at this ⊢; omega) ?_
           intro v2 w2 hown2 hg2 hat2
           have HO2 := Lib.hid hown2; have HG2 := Lib.hid hg2; have HA2 := Lib.hid hat2; clear hown2 hg2 hat2))
      all_goals
        have R := ins_step HO.out HB.out.size HR.out HP.out HT.out HX.out HB1.out HV.out HS.out HW.out HG2.out HA2.out HB.out
        exact ⟨⟨k + 1, _, by omega, by push_cast; rfl, HO2.out, R.1, R.2.1, from_more HFR.out HW.out (by simp; omega), R.2.2⟩, by simp [intOf]; omega⟩
    · have hke : k = len := by omega
      subst hke
      obtain ⟨A', c', rfl⟩ := own_form HO.out
      go_wp2
      go_ret
      exact ⟨A', c', vs, rfl, Reads.of_own HO.out, HR.out, HB.out, own_from HO.out, HFR.out⟩


/-- Values that lie in memory of their own. -/
structure InsD (D : Nat → Prop) (w : World) (l : List VV) (A : Option Addr) (vs : List Value) : Prop where
  reads : Reads w w.heap.size 1 A l.length vs
  rep : RepK w l l.length vs
  row : ∀ ad, A = some ad → D ad.block
  vals : ∀ (j : Nat) (v : Value), vs[j]? = some v → ∀ (t : TypeId) (a : Addr) (n c : Nat), v = .iface t (.slice (some a) n c) → D a.block

theorem Rep.chg {S : Nat → Prop} {w w' : World} {y : SV} {v : Value} (h : Rep w y v) (hc : Chg S w w') (hn : ∀ t a n c, v = .iface t (.slice (some a) n c) → ¬ S a.block) : Rep w' y v := by
  cases y <;> try exact h
  obtain ⟨a, cap, rfl, hlt, hcell⟩ := h
  have hb := hc.block a.block hlt (hn _ a _ cap rfl)
  refine ⟨a, cap, rfl, Nat.lt_of_lt_of_le hlt hc.size, fun j hj => ?_⟩
  rw [← hcell j hj]
  exact World.cell?_of_block (by rw [block_add]; exact hb)

theorem InsD.chg {D S : Nat → Prop} {w w' : World} {l : List VV} {A : Option Addr} {vs : List Value} (h : InsD D w l A vs) (hc : Chg S w w') (hn : ∀ k, D k → ¬ S k) : InsD D w' l A vs := by
  refine ⟨⟨h.reads.1, fun hl => ?_⟩, ⟨h.rep.1, fun j x v hx hv => ?_⟩, h.row, h.vals⟩
  · obtain ⟨ad, e, hlt, hcell⟩ := h.reads.2 hl
    refine ⟨ad, e, Nat.lt_of_lt_of_le hlt hc.size, fun j u hu => ?_⟩
    rw [← hcell j u hu]
    exact World.cell?_of_block (by rw [block_add]; exact hc.block _ hlt (hn _ (h.row ad e)))
  · obtain ⟨y, h1, h2⟩ := h.rep.2 j x v hx hv
    exact ⟨y, h1, h2.chg hc (fun t a n c e => hn _ (h.vals j v hv t a n c e))⟩

theorem InsD.mono {D E : Nat → Prop} {w : World} {l : List VV} {A : Option Addr} {vs : List Value} (h : InsD D w l A vs) (hn : ∀ k, D k → E k) : InsD E w l A vs :=
  ⟨h.reads, h.rep, fun ad e => hn _ (h.row ad e), fun j v hv t a n c e => hn _ (h.vals j v hv t a n c e)⟩

end Go.Proofs.YtffgkocokkhahaaDoor

/- The order of keys: lists of values, then handles. Where a key stands in an ordered list. -/
namespace Go.Proofs.YtffgkocokkhahaaDoor
open Go.RowKit

theorem bytesOrd_anti (x y : List UInt8) : bytesOrd y x = - bytesOrd x y := by
  rcases bytesOrd_cases x y with ⟨e1, h1⟩ | ⟨e1, rfl⟩ | ⟨e1, h1⟩
  · rw [e1]
    rcases bytesOrd_cases y x with ⟨_, h2⟩ | ⟨_, h2⟩ | ⟨e2, _⟩
    · have := bytesLess_trans h1 h2
      rw [bytesLess_irrefl] at this
      cases this
    · subst h2
      rw [bytesLess_irrefl] at h1
      cases h1
    · exact e2
  · rw [e1]
    rfl
  · rw [e1]
    unfold bytesOrd three
    rw [h1]
    rfl

theorem lex_anti (a b : SV) : b.lex a = - a.lex b := by
  unfold SV.lex
  rw [bytesOrd_anti b.text a.text]
  repeat' split
  all_goals omega

def lexV : List VV → List VV → Int
  | x :: l, y :: m => if x.sv.lex y.sv = 0 then lexV l m else x.sv.lex y.sv
  | _, _ => 0

def PlainL (l : List VV) : Prop := ∀ x ∈ l, x.sv.plain

theorem ConcL.plain {l : List VV} (h : ConcL l) : PlainL l := by
  intro x hx
  obtain ⟨j, hj, rfl⟩ := List.getElem_of_mem hx
  exact (conc_sv (h j _ (List.getElem?_eq_getElem hj)).1).2

theorem collV_lex : ∀ (l m : List VV), PlainL l → PlainL m → collV l m = lexV l m
  | [], _, _, _ => rfl
  | _ :: _, [], _, _ => rfl
  | x :: l, y :: m, h1, h2 => by
    unfold collV lexV
    rw [coll_lex (h1 x (by simp)) (h2 y (by simp)), collV_lex l m (fun z hz => h1 z (by simp [hz])) (fun z hz => h2 z (by simp [hz]))]

theorem lexV_anti : ∀ (l m : List VV), lexV m l = - lexV l m
  | [], [] => rfl
  | [], _ :: _ => rfl
  | _ :: _, [] => rfl
  | x :: l, y :: m => by
    unfold lexV
    rw [lex_anti x.sv y.sv, lexV_anti l m]
    split <;> split <;> omega

theorem lexV_chain : ∀ (a b c : List VV), a.length = b.length → b.length = c.length →
    (lexV a b ≤ 0 → lexV b c ≤ 0 → lexV a c ≤ 0 ∧ (lexV a c = 0 → lexV a b = 0 ∧ lexV b c = 0))
  | [], [], [], _, _ => by simp [lexV]
  | [], [], _ :: _, _, h => by simp at h
  | [], _ :: _, _, h, _ => by simp at h
  | _ :: _, [], _, h, _ => by simp at h
  | _ :: _, _ :: _, [], _, h => by simp at h
  | x :: a, y :: b, z :: c, h1, h2 => by
    have ih := lexV_chain a b c (by simpa using h1) (by simpa using h2)
    have hc := (lex_chain x.sv y.sv z.sv).1
    have hd := (lex_chain x.sv y.sv z.sv).2
    unfold lexV
    generalize x.sv.lex y.sv = p at *
    generalize y.sv.lex z.sv = q at *
    generalize x.sv.lex z.sv = r at *
    generalize lexV a b = u at *
    generalize lexV b c = v at *
    generalize lexV a c = t at *
    intro g1 g2
    split at g1 <;> split at g2 <;> split <;> omega

/-- A key: its values and its handle. -/
structure Key where
  l : List VV
  h : Int

def Key.c (a b : Key) : Int := if lexV a.l b.l = 0 then a.h - b.h else lexV a.l b.l

theorem Key.trans {a b c : Key} (h1 : a.l.length = b.l.length) (h2 : b.l.length = c.l.length) (h3 : a.c b < 0) (h4 : b.c c < 0) : a.c c < 0 := by
  have h := lexV_chain a.l b.l c.l h1 h2
  unfold Key.c at *
  generalize lexV a.l b.l = p at *
  generalize lexV b.l c.l = q at *
  generalize lexV a.l c.l = r at *
  split at h3 <;> split at h4 <;> split <;> omega

/-- Where something stands: s tells how it compares with each of n. -/
structure Pos (s : Nat → Int) (n i : Nat) (ok : Bool) : Prop where
  le : i ≤ n
  ahead : ∀ j, j < i → 0 < s j
  behind : ∀ j, i < j → j < n → s j < 0
  hit : ok = true → i < n ∧ s i = 0
  miss : ok = false → i < n → s i < 0

end Go.Proofs.YtffgkocokkhahaaDoor
