/-
  What a memory store has for values: a blob of no bytes may be nil; (*mem).clone.
-/
import Derived.Test.YtffgkocokkhahaaGreatDoorXda
import Derived.Test.YtffgkocokkhahaaGreatDoorSl5
import Derived.Test.YtffgkocokkhahaaGreatDoorPg
namespace Go.Proofs.YtffgkocokkhahaaGreatDoor
open Go.RowKit

theorem own_ltm {w : World} {base : Nat} {e : TypeId} {size : Nat} {v : Value} {n : Nat} {xs : List Value} (h : w.ownsRow base e size v n xs) {b : Nat} (hb : v.ownBlock = some b) : b < w.heap.size := by
  rcases h.2 with ⟨h2, _⟩ | ⟨g, cap, cur, e1, e2, e3, e4⟩
  · rw [h2] at hb; cases hb
  · rw [e1] at hb
    have : g = b := by simpa [Value.ownBlock] using hb
    subst this
    exact lt_of_heap e3

/-- What the store has for a value. -/
def RepZ (w : World) (y : SV) (v : Value) : Prop := Rep w y v ∨ (y = .blob [] ∧ v = .iface 188 (.slice none 0 0))

theorem RepZ.chg {S : Nat → Prop} {w w' : World} {y : SV} {v : Value} (h : RepZ w y v) (hc : Chg S w w') (hn : ∀ t a n c, v = .iface t (.slice (some a) n c) → ¬ S a.block) : RepZ w' y v := h.imp (fun h => h.chg hc hn) id

theorem RepZ.lt {w : World} {y : SV} {v : Value} (h : RepZ w y v) {t : TypeId} {a : Addr} {n c : Nat} (hv : v = .iface t (.slice (some a) n c)) : a.block < w.heap.size := by
  rcases h with h | ⟨_, h⟩
  · exact rep_lt h hv
  · rw [hv] at h
    injection h with _ h
    injection h with h
    cases h

def RepKZ (w : World) (l : List VV) (k : Nat) (vs : List Value) : Prop :=
  vs.length = k ∧ ∀ (j : Nat) (x : VV) (v : Value), l[j]? = some x → vs[j]? = some v → ∃ y, x.is y ∧ RepZ w y v

/-- Values of a store that lie in memory of their own. -/
structure InsZ (D : Nat → Prop) (w : World) (l : List VV) (A : Option Addr) (vs : List Value) : Prop where
  reads : Reads w w.heap.size 1 A l.length vs
  rep : RepKZ w l l.length vs
  row : ∀ ad, A = some ad → D ad.block
  vals : ∀ (j : Nat) (v : Value), vs[j]? = some v → ∀ (t : TypeId) (a : Addr) (n c : Nat), v = .iface t (.slice (some a) n c) → D a.block

theorem InsD.z {D : Nat → Prop} {w : World} {l : List VV} {A : Option Addr} {vs : List Value} (h : InsD D w l A vs) : InsZ D w l A vs :=
  ⟨h.reads, ⟨h.rep.1, fun j x v hx hv => by obtain ⟨y, h1, h2⟩ := h.rep.2 j x v hx hv; exact ⟨y, h1, .inl h2⟩⟩, h.row, h.vals⟩

theorem InsZ.chg {D S : Nat → Prop} {w w' : World} {l : List VV} {A : Option Addr} {vs : List Value} (h : InsZ D w l A vs) (hc : Chg S w w') (hn : ∀ k, D k → ¬ S k) : InsZ D w' l A vs := by
  refine ⟨⟨h.reads.1, fun hl => ?_⟩, ⟨h.rep.1, fun j x v hx hv => ?_⟩, h.row, h.vals⟩
  · obtain ⟨ad, e, hlt, hcell⟩ := h.reads.2 hl
    refine ⟨ad, e, Nat.lt_of_lt_of_le hlt hc.size, fun j u hu => ?_⟩
    rw [← hcell j u hu]
    exact World.cell?_of_block (by rw [block_add]; exact hc.block _ hlt (hn _ (h.row ad e)))
  · obtain ⟨y, h1, h2⟩ := h.rep.2 j x v hx hv
    exact ⟨y, h1, h2.chg hc (fun t a n c e => hn _ (h.vals j v hv t a n c e))⟩

theorem InsZ.mono {D E : Nat → Prop} {w : World} {l : List VV} {A : Option Addr} {vs : List Value} (h : InsZ D w l A vs) (hn : ∀ k, D k → E k) : InsZ E w l A vs :=
  ⟨h.reads, h.rep, fun ad e => hn _ (h.row ad e), fun j v hv t a n c e => hn _ (h.vals j v hv t a n c e)⟩

theorem InsZ.nil (D : Nat → Prop) (w : World) : InsZ D w [] none [] := ⟨⟨rfl, fun h => absurd h (by simp)⟩, ⟨rfl, fun j x v h _ => (by simp at h)⟩, fun ad h => (by cases h), fun j v h => (by simp at h)⟩

def byteV (b : UInt8) : Value := .int .u8 (b.toNat : Int)

/-- A blob's bytes, nil or not. -/
theorem RepZ.blob {w : World} {l : List UInt8} {v : Value} (h : RepZ w (.blob l) v) : ∃ A c, v = .iface 188 (.slice A l.length c) ∧ Reads w w.heap.size 1 A l.length (l.map byteV) := by
  rcases h with ⟨a, c, hv, hlt, hc⟩ | ⟨h, hv⟩
  · refine ⟨some a, c, hv, ⟨by simp, fun _ => ⟨a, rfl, hlt, fun j u hu => ?_⟩⟩⟩
    have hj : j < l.length := by simpa using (List.getElem?_eq_some_iff.1 hu).1
    rw [hc j hj]
    rw [List.getElem?_map, List.getElem?_eq_getElem hj] at hu
    exact hu
  · injection h with h
    subst h
    exact ⟨none, 0, hv, ⟨rfl, fun h => absurd h (by simp)⟩⟩

theorem repZ_own {w : World} {B : Nat} {l : List UInt8} {v : Value} (h : w.ownsRow B 5 1 v l.length (l.map byteV)) : RepZ w (.blob l) (.iface 188 v) := by
  rcases h.2 with ⟨h1, h2⟩ | ⟨g, cap, cur, e1, e2, e3, e4⟩
  · have hl : l = [] := List.eq_nil_of_length_eq_zero h2
    subst hl
    exact .inr ⟨rfl, by rw [h1]⟩
  · refine .inl ⟨⟨g, 0, none⟩, cap, by rw [e1], lt_of_heap e3, fun j hj => ?_⟩
    have := h.cells (g := g) (by rw [e1]; rfl) j (byteV l[j]) (by simp [hj])
    exact this

/-- A list's next value, stored into a row that is being made. -/
theorem clone_step {w wr w1 : World} {l : List VV} {len k : Nat} {us : List Value} {x : VV} {y : SV} {v : Value}
    (hown : wr.ownsRow w.heap.size 20 1 (.slice (some ⟨w.heap.size, 0, none⟩) len len) len (us ++ List.replicate (len - k) .nilIface)) (hrep : RepKZ wr l k us)
    (hap : ∀ (j : Nat) (v : Value), us[j]? = some v → ∀ (t : TypeId) (a : Addr) (n c : Nat), v = .iface t (.slice (some a) n c) → w.heap.size < a.block) (hb : Below w.heap.size w wr) (hlt : k < len) (hx : l[k]? = some x)
    (hb1 : Below wr.heap.size wr w1) (hy : x.is y) (hv : RepZ w1 y v) (hva : ∀ (t : TypeId) (a : Addr) (n c : Nat), v = .iface t (.slice (some a) n c) → w.heap.size < a.block) :
    (w1.setCell ⟨w.heap.size, k, none⟩ v).ownsRow w.heap.size 20 1 (.slice (some ⟨w.heap.size, 0, none⟩) len len) len ((us ++ [v]) ++ List.replicate (len - (k + 1)) .nilIface) ∧
    RepKZ (w1.setCell ⟨w.heap.size, k, none⟩ v) l (k + 1) (us ++ [v]) ∧ (∀ (j : Nat) (u : Value), (us ++ [v])[j]? = some u → ∀ (t : TypeId) (a : Addr) (n c : Nat), u = .iface t (.slice (some a) n c) → w.heap.size < a.block) ∧ Below w.heap.size w (w1.setCell ⟨w.heap.size, k, none⟩ v) := by
  have hc1 : Chg (fun b => b = w.heap.size) wr (w1.setCell ⟨w.heap.size, k, none⟩ v) := Chg.setCell (S := fun b => b = w.heap.size) (Chg.of_below hb1) (p := ⟨w.heap.size, k, none⟩) (.inl rfl) _
  have hc2 : Chg (fun b => b = w.heap.size) w1 (w1.setCell ⟨w.heap.size, k, none⟩ v) := Chg.setCell (S := fun b => b = w.heap.size) (Chg.refl _ _) (p := ⟨w.heap.size, k, none⟩) (.inl rfl) _
  refine ⟨?_, ⟨by rw [List.length_append, hrep.1]; rfl, fun j z u hz hu => ?_⟩, fun j u hu t a n c e => ?_, (up_below' hb hb1).setCell (Nat.le_refl _) _⟩
  · have h := ((own_below hown hb1).stored k v).1
    have e : (us ++ List.replicate (len - k) Value.nilIface).set k v = (us ++ [v]) ++ List.replicate (len - (k + 1)) .nilIface := by
      rw [List.set_append_right _ _ (by rw [hrep.1]; exact Nat.le_refl _), hrep.1, Nat.sub_self, show len - k = (len - (k + 1)) + 1 by omega, List.replicate_succ, List.set_cons_zero, List.append_assoc]
      rfl
    rw [e] at h
    exact h
  · rcases Nat.lt_or_ge j k with hj | hj
    · rw [List.getElem?_append_left (by rw [hrep.1]; exact hj)] at hu
      obtain ⟨y', h1, h2⟩ := hrep.2 j z u hz hu
      exact ⟨y', h1, h2.chg hc1 (fun t a n c e h => by have := hap j u hu t a n c e; omega)⟩
    · have hjk : j = k := by
        have := (List.getElem?_eq_some_iff.1 hu).1
        rw [List.length_append, hrep.1] at this
        simp at this
        omega
      subst hjk
      rw [List.getElem?_append_right (by rw [hrep.1]; exact Nat.le_refl _), hrep.1, Nat.sub_self] at hu
      obtain rfl : u = v := (Option.some.inj hu).symm
      obtain rfl : z = x := Option.some.inj (hz.symm.trans hx)
      exact ⟨y, hy, hv.chg hc2 (fun t a n c e h => by have := hva t a n c e; omega)⟩
  · rcases List.mem_append.1 (List.mem_of_getElem? hu) with h | h
    · obtain ⟨i, hi⟩ := List.getElem?_of_mem h
      exact hap i u hi t a n c e
    · obtain rfl : u = v := by simpa using h
      exact hva t a n c e

def CloneP (l : List VV) (w : World) (y : Ending) (w' : World) : Prop :=
  ∃ vs, y = .returned (.slice (some ⟨w.heap.size, 0, none⟩) l.length l.length) ∧ InsZ (fun k => w.heap.size ≤ k ∧ k < w'.heap.size) w' l (some ⟨w.heap.size, 0, none⟩) vs ∧ Below w.heap.size w w'

end Go.Proofs.YtffgkocokkhahaaGreatDoor
