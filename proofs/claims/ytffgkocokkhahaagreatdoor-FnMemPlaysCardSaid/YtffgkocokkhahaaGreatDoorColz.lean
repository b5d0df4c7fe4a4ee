/-
  bytes.Compare of two blobs; ql.collate1 of two blobs.
-/
import Derived.Test.YtffgkocokkhahaaGreatDoorIn
import Derived.Test.YtffgkocokkhahaaGreatDoorAs
import Derived.Lib.BytesEntry
import Derived.Laws.Externs
namespace Go.Proofs.YtffgkocokkhahaaGreatDoor
open Go.RowKit

def cmpL (l m : List UInt8) : Int :=
  match (List.range (min l.length m.length)).find? fun i => l[i]! != m[i]! with
  | some i => if l[i]! < m[i]! then -1 else 1
  | none => if l.length < m.length then -1 else if l.length > m.length then 1 else 0

theorem ba_get (l : List UInt8) (i : Nat) : (⟨l.toArray⟩ : ByteArray)[i]! = l[i]! := by
  by_cases h : i < l.length
  · rw [getElem!_pos (⟨l.toArray⟩ : ByteArray) i (by show i < l.toArray.size; simpa using h), getElem!_pos l i h]
    rfl
  · rw [getElem!_neg (⟨l.toArray⟩ : ByteArray) i (by show ¬ i < l.toArray.size; simpa using h), getElem!_neg l i h]

theorem cmp_list (l m : List UInt8) : Extern.BytealgCompare.cmp ⟨l.toArray⟩ ⟨m.toArray⟩ = cmpL l m := by
  unfold Extern.BytealgCompare.cmp cmpL
  simp only [ba_get]
  rfl

theorem cmpL_cons (x y : UInt8) (l m : List UInt8) : cmpL (x :: l) (y :: m) = if x = y then cmpL l m else if x < y then -1 else 1 := by
  unfold cmpL
  rw [List.length_cons, List.length_cons, show min (l.length + 1) (m.length + 1) = min l.length m.length + 1 from by omega, List.range_succ_eq_map, List.find?_cons]
  by_cases h : x = y
  · subst h
    simp only [List.getElem!_cons_zero, bne_self_eq_false, if_true, List.find?_map, Function.comp_def, List.getElem!_cons_succ]
    cases (List.range (min l.length m.length)).find? (fun i => l[i]! != m[i]!) with
    | none =>
      simp only [Option.map_none]
      split <;> split <;> first | rfl | (split <;> split <;> first | rfl | omega) | omega
    | some i => simp
  · have hb : (x != y) = true := by simp [h]
    simp [hb, h]

theorem cmpL_ord : ∀ (l m : List UInt8), cmpL l m = bytesOrd l m
  | [], [] => by decide
  | [], y :: m => by simp [cmpL, bytesOrd, three, Op.bytesLess]
  | x :: l, [] => by simp [cmpL, bytesOrd, three, Op.bytesLess]
  | x :: l, y :: m => by
    rw [cmpL_cons, cmpL_ord l m]
    unfold bytesOrd
    by_cases h : x = y
    · subst h
      simp [Op.bytesLess]
    · simp only [Op.bytesLess]
      by_cases h2 : x < y
      · simp [h, h2, three]
      · simp [h, h2, three]

theorem run_xload (w : World) (l : List UInt8) (a : Addr) (h : ∀ j (hj : j < l.length), w.cell? (a.add j) = some (.int .u8 (l[j].toNat : Int))) :
    (Extern.Bytes.loadBytes a l.length .empty).run Tryz.prog w = .ok ⟨l.toArray⟩ w := by
  have hl := Lib.run_loadBytesX (P := Tryz.prog) w (l.map fun b => (b.toNat : Int)) a .empty (fun j x hj => by
    rw [List.getElem?_map] at hj
    cases hg : l[j]? with
    | none => rw [hg] at hj; cases hj
    | some b =>
      rw [hg] at hj
      simp only [Option.map_some, Option.some.injEq] at hj
      subst hj
      obtain ⟨hlt, rfl⟩ := List.getElem?_eq_some_iff.1 hg
      exact h j hlt)
  rw [List.length_map] at hl
  rw [hl]
  congr 1
  apply ByteArray.ext
  show (#[] : Array UInt8) ++ (Lib.bytesOf (l.map fun b => (b.toNat : Int))).toArray = l.toArray
  rw [show Lib.bytesOf (l.map fun b => (b.toNat : Int)) = l from by
    unfold Lib.bytesOf
    rw [List.map_map]
    refine (List.map_congr_left (g := id) (fun b _ => ?_)).trans (List.map_id l)
    simp]
  simp

theorem run_cmp (w : World) (b c : List UInt8) (a a' : Addr) (p p' : Nat) (h : ∀ j (hj : j < b.length), w.cell? (a.add j) = some (.int .u8 (b[j].toNat : Int))) (h' : ∀ j (hj : j < c.length), w.cell? (a'.add j) = some (.int .u8 (c[j].toNat : Int))) :
    (Extern.BytealgCompare.compare #[.slice (some a) b.length p, .slice (some a') c.length p']).run Tryz.prog w = .ok (.int .i64 (bytesOrd b c)) w := by
  have l1 := run_xload w b a h
  have l2 := run_xload w c a' h'
  change Sem.run Tryz.prog (do pure (goInt (Extern.BytealgCompare.cmp (← Extern.Bytes.bytesOf (.slice (some a) b.length p)) (← Extern.Bytes.bytesOf (.slice (some a') c.length p'))))) w = _
  simp only [Extern.Bytes.bytesOf, Sem.run_bind, Sem.run_pure, l1, l2, Result.andThen]
  rw [cmp_list, cmpL_ord]
  rfl

theorem run_compare (w : World) (b c : List UInt8) (a a' : Addr) (p p' : Nat) (h : ∀ j (hj : j < b.length), w.cell? (a.add j) = some (.int .u8 (b[j].toNat : Int))) (h' : ∀ j (hj : j < c.length), w.cell? (a'.add j) = some (.int .u8 (c[j].toNat : Int))) :
    (callFunc 129 #[.slice (some a) b.length p, .slice (some a') c.length p']).run Tryz.prog w = .ok (.value (.int .i64 (bytesOrd b c))) w := by
  rw [run_callFunc_extern Tryz.func129 (by kernel_rfl) (by kernel_rfl) (by kernel_rfl) (e := Extern.BytealgCompare.compare) (by kernel_rfl), run_cmp w b c a a' p p' h h']
  rfl

set_option maxRecDepth 100000 in
set_option maxHeartbeats 1000000 in
theorem compare_any (w : World) (b c : List UInt8) (a a' : Addr) (p p' : Nat) (h : Hid (∀ j (hj : j < b.length), w.cell? (a.add j) = some (.int .u8 (b[j].toNat : Int)))) (h' : Hid (∀ j (hj : j < c.length), w.cell? (a'.add j) = some (.int .u8 (c[j].toNat : Int)))) :
    Calls Tryz.prog 127 #[.slice (some a) b.length p, .slice (some a') c.length p'] w fun e w' => e = .returned (.int .i64 (bytesOrd b c)) ∧ w = w' := by
  have hf := run_compare w b c a a' p p' h.out h'.out
  go_enter Tryz.func127, Tryz.ntmps127
  go_wp2
  go_ret
  exact ⟨rfl, rfl⟩

set_option maxRecDepth 100000 in
set_option maxHeartbeats 1000000 in
theorem colz_blob (w : World) (b c : List UInt8) (a a' : Addr) (p p' : Nat) (h : Hid (∀ j (hj : j < b.length), w.cell? (a.add j) = some (.int .u8 (b[j].toNat : Int)))) (h' : Hid (∀ j (hj : j < c.length), w.cell? (a'.add j) = some (.int .u8 (c[j].toNat : Int)))) :
    Calls Tryz.prog 119 #[.iface 188 (.slice (some a) b.length p), .iface 188 (.slice (some a') c.length p')] w fun e w' => e = .returned (.int .i64 (bytesOrd b c)) ∧ w = w' := by
  go_enter Tryz.func119, Tryz.ntmps119
  go_wp2_with (go_at_call 127; refine (compare_any _ b c a a' p p' h h').mono ?_; rintro e w1 ⟨rfl, rfl⟩)
  go_ret
  exact ⟨rfl, rfl⟩

theorem col_blob (b c : List UInt8) (u v : Value) (w : World) (hu : Rep w (.blob b) u) (hv : Rep w (.blob c) v) :
    Calls Tryz.prog 119 #[u, v] w fun e w' => e = .returned (.int .i64 (bytesOrd b c)) ∧ Below w.heap.size w w' := by
  obtain ⟨a, p, rfl, _, h⟩ := hu
  obtain ⟨a', p', rfl, _, h'⟩ := hv
  exact (colz_blob w b c a a' p p' h h').mono fun _ _ ⟨h1, h2⟩ => ⟨h1, by subst h2; exact Below.refl _ _⟩

end Go.Proofs.YtffgkocokkhahaaGreatDoor
