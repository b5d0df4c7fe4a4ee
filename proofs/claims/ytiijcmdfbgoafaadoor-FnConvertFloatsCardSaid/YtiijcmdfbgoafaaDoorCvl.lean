/-
  impl.Convert: of what comes out the kind is the one that is asked for, it is valid, and converted once more it is the same. PRINTED BY wip/tpl/gen_lawcvk.py.
-/
import Derived.Test.YtiijcmdfbgoafaaDoorCvk
namespace Go.Proofs.YtiijcmdfbgoafaaDoor
open Go.RowKit

theorem cvOf_same {k : Kd} {y z : SV} (h : CvOf k y z) (hk : y.kd = k) : z = y := by
  subst hk
  cases y with
  | int q n => cases q <;> exact h rfl
  | _ => exact h rfl
theorem cvCan_same {k : Kd} {y : SV} (hk : y.kd = k) : CvCan k y = true := by
  subst hk
  cases y with
  | int q n => cases q <;> rfl
  | _ => rfl

def FirstPost (kq : ByteArray) (w : World) (e : Ending) (w' : World) : Prop :=
  ∃ kk nn uu gg ss c, e = .returned (.tuple #[.agg #[.string kk, .int .i64 nn, .int .u64 uu, .float .f64 gg, .string ss], .int .i64 c]) ∧ Below w.heap.size w w' ∧ ((c == 0) = false ∨ (c = 0 ∧ kk.toList = kq.toList ∧ validB (Kd.of kk.toList) nn uu gg ss = true ∧ Rng nn uu gg))

theorem implCv_first (k : ByteArray) (n u : Int) (f : Nat) (s : ByteArray) (hr : Rng n u f) (hv : validB (Kd.of k.toList) n u f s = true) (hk0 : Kd.of k.toList ≠ .null) (kq : ByteArray) (hkq : (Kd.of kq.toList).col = true) (a : Addr) (w : World) (hg : Has w a) :
    Calls Tryd.prog 15 #[.agg #[.string k, .int .i64 n, .int .u64 u, .float .f64 f, .string s], .string kq] w (FirstPost kq w) := by
  refine (implCv_any k n u f s hr hv hk0 kq hkq a w hg).mono ?_
  rintro e w' ⟨kk, nn, uu, gg, ss, c, he, hb, y, hsv, ⟨z, h1, h2, h3, h4, hfo, rfl, rfl, rfl, rfl, rfl⟩ | ⟨_, hc⟩⟩
  · refine ⟨_, _, _, _, _, _, he, hb, .inr ⟨rfl, ?_, ?_⟩⟩
    · have e1 := nm_kd z
      rw [h3] at e1
      have hne : Kd.of kq.toList ≠ .other := fun h0 => by rw [h0] at hkq; cases hkq
      rw [Kd.of_lit _ e1 hne, ← Kd.of_lit _ rfl hne]
    · rw [nm_kd]
      exact out_valid h2 h4 (by rw [h3]; exact hkq) hfo
  · exact ⟨_, _, _, _, _, _, he, hb, .inl (beq_eq_false_iff_ne.2 hc)⟩

def SecondPost (k : ByteArray) (n u : Int) (f : Nat) (s : ByteArray) (w : World) (e : Ending) (w' : World) : Prop :=
  ∃ kj nj uj gj sj, e = .returned (.tuple #[.agg #[.string kj, .int .i64 nj, .int .u64 uj, .float .f64 gj, .string sj], .int .i64 0]) ∧ Below w.heap.size w w' ∧ sameB k n u f s kj nj uj gj sj = true

theorem implCv_second (k : ByteArray) (n u : Int) (f : Nat) (s : ByteArray) (hr : Rng n u f) (hv : validB (Kd.of k.toList) n u f s = true) (kq : ByteArray) (hkq : (Kd.of kq.toList).col = true) (hkk : k.toList = kq.toList) (a : Addr) (w : World) (hg : Has w a) :
    Calls Tryd.prog 15 #[.agg #[.string k, .int .i64 n, .int .u64 u, .float .f64 f, .string s], .string kq] w (SecondPost k n u f s w) := by
  refine (implCv_any k n u f s hr hv (fun h0 => by rw [← hkk, h0] at hkq; cases hkq) kq hkq a w hg).mono ?_
  rintro e w' ⟨kk, nn, uu, gg, ss, c, he, hb, y, hsv, ⟨z, h1, h2, h3, h4, hfo, rfl, rfl, rfl, rfl, rfl⟩ | ⟨hc, _⟩⟩
  · have hkd : y.kd = Kd.of kq.toList := by rw [toSV_kd hv hsv, hkk]
    obtain rfl := cvOf_same h1 hkd
    exact ⟨_, _, _, _, _, he, hb, sameB_comm (back_same hv hsv hfo)⟩
  · have hkd : y.kd = Kd.of kq.toList := by rw [toSV_kd hv hsv, hkk]
    rw [cvCan_same hkd] at hc
    cases hc

theorem keep_alloc {w : World} {p : Addr} {v : Value} (h : w.cell? p = some v) (o : Obj) : (w.alloc o).cell? p = some v := by
  have hlt : p.block < w.heap.size := by
    rcases Nat.lt_or_ge p.block w.heap.size with h' | h'
    · exact h'
    · unfold World.cell? at h
      rw [Array.getElem?_eq_none h'] at h
      cases h
  rw [World.cell?_alloc_lt w o p hlt]
  exact h

theorem keep_st5 {w : World} {p : Addr} {v : Value} {g : Nat} (h : w.cell? p = some v) (hne : p.block ≠ g) (a0 a1 a2 a3 a4 : Value) :
    (((((w.setCell ⟨g, 0, none⟩ a0).setCell ⟨g, 1, none⟩ a1).setCell ⟨g, 2, none⟩ a2).setCell ⟨g, 3, none⟩ a3).setCell ⟨g, 4, none⟩ a4).cell? p = some v := by
  have e : ∀ j, (⟨g, j, none⟩ : Addr) ≠ p := fun j h => hne (by rw [← h])
  rw [World.cell?_setCell_other _ _ _ _ (e 4), World.cell?_setCell_other _ _ _ _ (e 3), World.cell?_setCell_other _ _ _ _ (e 2), World.cell?_setCell_other _ _ _ _ (e 1), World.cell?_setCell_other _ _ _ _ (e 0)]
  exact h

theorem st5_cells {w : World} {g : Nat} {z : Array Value} (hz : ∀ j, w.cell? ⟨g, j, none⟩ = z[j]?) (hs : z.size = 5) (a0 a1 a2 a3 a4 : Value) :
    (((((w.setCell ⟨g, 0, none⟩ a0).setCell ⟨g, 1, none⟩ a1).setCell ⟨g, 2, none⟩ a2).setCell ⟨g, 3, none⟩ a3).setCell ⟨g, 4, none⟩ a4).cell? ⟨g, 0, none⟩ = some a0 ∧
    (((((w.setCell ⟨g, 0, none⟩ a0).setCell ⟨g, 1, none⟩ a1).setCell ⟨g, 2, none⟩ a2).setCell ⟨g, 3, none⟩ a3).setCell ⟨g, 4, none⟩ a4).cell? ⟨g, 1, none⟩ = some a1 ∧
    (((((w.setCell ⟨g, 0, none⟩ a0).setCell ⟨g, 1, none⟩ a1).setCell ⟨g, 2, none⟩ a2).setCell ⟨g, 3, none⟩ a3).setCell ⟨g, 4, none⟩ a4).cell? ⟨g, 2, none⟩ = some a2 ∧
    (((((w.setCell ⟨g, 0, none⟩ a0).setCell ⟨g, 1, none⟩ a1).setCell ⟨g, 2, none⟩ a2).setCell ⟨g, 3, none⟩ a3).setCell ⟨g, 4, none⟩ a4).cell? ⟨g, 3, none⟩ = some a3 ∧
    (((((w.setCell ⟨g, 0, none⟩ a0).setCell ⟨g, 1, none⟩ a1).setCell ⟨g, 2, none⟩ a2).setCell ⟨g, 3, none⟩ a3).setCell ⟨g, 4, none⟩ a4).cell? ⟨g, 4, none⟩ = some a4 := by
  have hx : ∀ j, j < 5 → ∃ v, w.cell? ⟨g, j, none⟩ = some v := fun j hj => ⟨_, (hz j).trans (Array.getElem?_eq_getElem (by omega))⟩
  obtain ⟨x0, h0⟩ := hx 0 (by omega)
  obtain ⟨x1, h1⟩ := hx 1 (by omega)
  obtain ⟨x2, h2⟩ := hx 2 (by omega)
  obtain ⟨x3, h3⟩ := hx 3 (by omega)
  obtain ⟨x4, h4⟩ := hx 4 (by omega)
  refine ⟨?_, ?_, ?_, ?_, ?_⟩ <;> simp [go_sem, h0, h1, h2, h3, h4]

theorem valid_true (k : ByteArray) (n u : Int) (f : Nat) (s : ByteArray) (hv : validB (Kd.of k.toList) n u f s = true) (w : World) : Calls Tryd.prog 20 #[.agg #[.string k, .int .i64 n, .int .u64 u, .float .f64 f, .string s]] w fun e w' => e = .returned (.bool true) ∧ Below w.heap.size w w' := by
  have h := valid_any k n u f s w
  rw [hv] at h
  exact h
theorem same_true (k : ByteArray) (n u : Int) (f : Nat) (s : ByteArray) (k' : ByteArray) (n' u' : Int) (f' : Nat) (s' : ByteArray) (hv : sameB k n u f s k' n' u' f' s' = true) (w : World) : Calls Tryd.prog 19 #[.agg #[.string k, .int .i64 n, .int .u64 u, .float .f64 f, .string s], .agg #[.string k', .int .i64 n', .int .u64 u', .float .f64 f', .string s']] w fun e w' => e = .returned (.bool true) ∧ Below w.heap.size w w' := by
  have h := same_any k n u f s k' n' u' f' s' w
  rw [hv] at h
  exact h

end Go.Proofs.YtiijcmdfbgoafaaDoor
