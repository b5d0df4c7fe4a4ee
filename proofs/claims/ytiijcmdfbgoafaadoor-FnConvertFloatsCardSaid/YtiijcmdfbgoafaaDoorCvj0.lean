/-
  How ql.convert ends, joined: what a value becomes. PRINTED BY wip/tpl/gen_cvt.py.
-/
import Derived.Test.YtiijcmdfbgoafaaDoorCvp
namespace Go.Proofs.YtiijcmdfbgoafaaDoor
open Go.RowKit

/-- What a value becomes by a conversion, as far as it is told. -/
def CvOf : Kd → SV → SV → Prop
  | .f32, .int _ n, z => z = .f32 (FloatKind.f32.nearest n)
  | .f64, .int _ n, z => z = .f64 (FloatKind.f64.nearest n)
  | .int q, .f32 x, z => ∀ m, floatToIntVal .f32 x q = some m → z = .int q m
  | .int q, .f64 x, z => ∀ m, floatToIntVal .f64 x q = some m → z = .int q m
  | .f32, .f64 x, z => ((Ieee.single.read (Flt.down x)).isInfinity && !(Ieee.double.read x).isInfinity) = false → (Ieee.double.read x).isNaN = false → z = .f32 (Flt.down x)
  | k, y, z => y.kd = k → z = y
/-- Where a conversion has no error. -/
def CvCan : Kd → SV → Bool
  | .f32, .int _ _ => true
  | .f64, .int _ _ => true
  | .int _, .f32 _ => true
  | .int _, .f64 _ => true
  | .f32, .f64 _ => true
  | k, y => y.kd == k

def CvPost (k : Kd) (y : SV) (w : World) (e : Ending) (w' : World) : Prop :=
  (∃ z v, CvOf k y z ∧ z.wf ∧ z.kd = k ∧ z.small ∧ Rep w' z v ∧ e = .returned (.tuple #[v, .nilIface]) ∧ Below w.heap.size w w') ∨ (CvCan k y = false ∧ CvNo w e w')

theorem cv_yes0 {k : Kd} {y : SV} {w : World} {v : Value} {e : Ending} {w' : World} (z : SV) (h1 : CvOf k y z) (h2 : z.wf) (h3 : z.kd = k) (h4 : z.small) (h5 : ∀ w, Rep w z v) (h : e = .returned (.tuple #[v, .nilIface]) ∧ w = w') : CvPost k y w e w' := by
  obtain ⟨he, rfl⟩ := h
  exact .inl ⟨z, v, h1, h2, h3, h4, h5 _, he, Below.refl _ _⟩
theorem cv_yesD {k : Kd} {y : SV} {w : World} {v : Value} {e : Ending} {w' : World} (z : SV) (h1 : CvOf k y z) (h2 : z.wf) (h3 : z.kd = k) (h4 : z.small) (h5 : ∀ w, Rep w z v) (h : e = .returned (.tuple #[v, .nilIface]) ∧ w' = w.drew) : CvPost k y w e w' := by
  obtain ⟨he, rfl⟩ := h
  exact .inl ⟨z, v, h1, h2, h3, h4, h5 _, he, (Below.refl _ _).drew⟩
theorem cv_yesN {k : Kd} {y : SV} {w : World} {v : Value} {e : Ending} {w' : World} {n : Nat} (z : SV) (h1 : CvOf k y z) (h2 : z.wf) (h3 : z.kd = k) (h4 : z.small) (h5 : ∀ w, Rep w z v) (h : e = .returned (.tuple #[v, .nilIface]) ∧ w' = w.drewN n) : CvPost k y w e w' := by
  obtain ⟨he, rfl⟩ := h
  exact .inl ⟨z, v, h1, h2, h3, h4, h5 _, he, below_drewN (Below.refl _ _) _⟩

/-- A literal's float that becomes an integer: an error, or some integer. -/
def CvI (q : IntKind) (w : World) (e : Ending) (w' : World) : Prop :=
  CvNo w e w' ∨ ∃ m, q.min ≤ m ∧ m ≤ q.max ∧ e = .returned (.tuple #[.iface (kindT q) (.int q m), .nilIface]) ∧ Below w.heap.size w w'
theorem cv_yesI {q : IntKind} {y : SV} {w : World} {e : Ending} {w' : World} (h1 : ∀ {z}, CvOf (.int q) y z) (h2 : CvCan (.int q) y = false) (h : CvI q w e w') : CvPost (.int q) y w e w' := by
  rcases h with h | ⟨m, g1, g2, he, hb⟩
  · exact .inr ⟨h2, h⟩
  · exact .inl ⟨.int q m, _, h1, ⟨g1, g2⟩, rfl, trivial, rfl, he, hb⟩

theorem fti_of32 (x : Nat) (q : IntKind) (w : World) : CvOf (.int q) (.f32 x) (.int q (fti .f32 x q w)) := fun m h => by unfold fti; rw [h]
theorem fti_of64 (x : Nat) (q : IntKind) (w : World) : CvOf (.int q) (.f64 x) (.int q (fti .f64 x q w)) := fun m h => by unfold fti; rw [h]
theorem near_lt_f32 (n : Int) : FloatKind.f32.nearest n < 4294967296 := by unfold FloatKind.nearest FloatKind.encode; exact Nat.lt_of_lt_of_le (Ieee.Format.write_lt _ _) (by decide)
theorem near_lt_f64 (n : Int) : FloatKind.f64.nearest n < 18446744073709551616 := by unfold FloatKind.nearest FloatKind.encode; exact Nat.lt_of_lt_of_le (Ieee.Format.write_lt _ _) (by decide)
theorem down_lt (x : Nat) : Flt.down x < 4294967296 := by unfold Flt.down; exact Nat.lt_of_lt_of_le (Ieee.Format.write_lt _ _) (by decide)
theorem wide_lt (W : World) (x : Nat) : wide W x < 18446744073709551616 := by
  unfold wide
  split
  · exact nan64_lt _ _
  · unfold Flt.up; exact Nat.lt_of_lt_of_le (Ieee.Format.write_lt _ _) (by decide)
theorem enc_small (n : Int) : (SV.str (Utf8.encode n)).small := Nat.le_trans (encode_size_le n) (by decide)

/-- A string's bytes in new memory. -/
theorem cv_blob {s : ByteArray} {y : SV} {w : World} {e : Ending} {w' : World} (h1 : CvOf .blob y (.blob s.data.toList)) (hs : s.size ≤ 65536) (h : CvBlob s w e w') : CvPost .blob y w e w' := by
  obtain ⟨b, cap, he, _, hlt, hb, hc⟩ := h
  refine .inl ⟨.blob s.data.toList, _, h1, trivial, rfl, by show s.data.toList.length ≤ 65536; rw [Array.length_toList]; exact hs, ?_, he, hb⟩
  refine ⟨⟨b, 0, none⟩, cap, rfl, hlt, fun j hj => ?_⟩
  have ha : Addr.add ⟨b, 0, none⟩ j = ⟨b, j, none⟩ := by
    unfold Addr.add
    split
    · rename_i h0; subst h0; rfl
    · simp
  rw [ha, hc j]
  unfold bytesRow
  have hj' : j < s.data.size := by simpa using hj
  rw [Array.getElem?_append_left (by simpa using hj')]
  simp
  exact ⟨s.data[j], Array.getElem?_eq_getElem hj', rfl⟩

end Go.Proofs.YtiijcmdfbgoafaaDoor
