/-
  impl.ins: a list of values brought into the database.
-/
import Derived.Test.YtffgkocokkhahaaGreatDoorRd
import Derived.Test.YtffgkocokkhahaaGreatDoorIn
namespace Go.Proofs.YtffgkocokkhahaaGreatDoor
open Go.RowKit

/-- y is what a value is as data. -/
def VV.is (x : VV) (y : SV) : Prop := SVof (Kd.of x.k.toList) x.n x.u x.f x.s y
def VV.good (x : VV) : Prop := Rng x.n x.u x.f ∧ validB (Kd.of x.k.toList) x.n x.u x.f x.s = true

/-- Where a value's memory begins. -/
def From (B : Nat) (v : Value) : Prop := ∀ t a n c, v = .iface t (.slice (some a) n c) → B ≤ a.block

def In2Post (x : VV) (w : World) (e : Ending) (w' : World) : Prop :=
  ∃ v y, e = .returned v ∧ Rep w' y v ∧ Below w.heap.size w w' ∧ x.is y ∧ From w.heap.size v

theorem in2_any (x : VV) (hg : x.good) (w : World) : Calls Tryz.prog 68 #[.agg #[.string x.k, .int .i64 x.n, .int .u64 x.u, .float .f64 x.f, .string x.s]] w (In2Post x w) := by
  by_cases hk : Kd.of x.k.toList = .blob
  · refine (in_blob x.k hk x.n x.u x.f x.s w).mono fun e w' ⟨b, cap, he, hlo, hlt, hb, hc⟩ => ⟨_, .blob x.s.data.toList, he, ?_, hb, by simp [VV.is, hk, SVof, toSV], ?_⟩
    · refine ⟨⟨b, 0, none⟩, cap, rfl, hlt, fun j hj => ?_⟩
      have ha : Addr.add ⟨b, 0, none⟩ j = ⟨b, j, none⟩ := by
        unfold Addr.add
        split
        · rename_i h0; subst h0; rfl
        · simp
      rw [ha, hc j]
      unfold bytesRow
      have hj' : j < x.s.data.size := by simpa using hj
      rw [Array.getElem?_append_left (by simpa using hj')]
      simp
      exact ⟨x.s.data[j], Array.getElem?_eq_getElem hj', rfl⟩
    · intro t a n c h
      injection h with _ h
      injection h with h
      injection h with h
      subst h
      exact hlo
  · refine (in_any x.k x.n x.u x.f x.s hg.1 hg.2 w).mono fun e w' ⟨v, y, he, hrep, hb, hsv⟩ => ⟨v, y, he, hrep, hb, hsv, ?_⟩
    intro t a n c h
    subst h
    exfalso
    have hy : ∃ l, y = .blob l := by
      cases y with
      | blob l => exact ⟨l, rfl⟩
      | _ => exact absurd hrep (by simp [Rep])
    obtain ⟨l, rfl⟩ := hy
    unfold SVof at hsv
    split at hsv
    · obtain ⟨z, h, _⟩ := hsv; cases h
    · revert hk hsv
      cases Kd.of x.k.toList <;> simp [toSV]

theorem rep_lt {w : World} {y : SV} {v : Value} (h : Rep w y v) {t : TypeId} {a : Addr} {n c : Nat} (hv : v = .iface t (.slice (some a) n c)) : a.block < w.heap.size := by
  subst hv
  cases y with
  | blob l =>
    obtain ⟨b, cap, he, hlt, _⟩ := h
    injection he with _ he
    injection he with he
    injection he with he
    subst he
    exact hlt
  | _ => exact absurd h (by simp [Rep])

theorem Rep.grown {w w' : World} {y : SV} {v : Value} {row : Option Nat} (h : Rep w y v) (hg : w.grownBy w' row) (hap : ∀ t a n c, v = .iface t (.slice (some a) n c) → some a.block ≠ row) : Rep w' y v := by
  cases y with
  | blob l =>
    obtain ⟨a, cap, hv, hlt, hc⟩ := h
    have hne := hap _ _ _ _ hv
    refine ⟨a, cap, hv, Nat.lt_of_lt_of_le hlt hg.size, fun j hj => ?_⟩
    exact (World.cell?_of_block (a := a.add j) (by rw [block_add]; exact hg.block _ hlt hne)).trans (hc j hj)
  | _ => exact h

/-- The first k values as the program has them. -/
def RepK (w : World) (l : List VV) (k : Nat) (vs : List Value) : Prop :=
  vs.length = k ∧ ∀ (j : Nat) (x : VV) (v : Value), l[j]? = some x → vs[j]? = some v → ∃ y, x.is y ∧ Rep w y v
def Apart (vs : List Value) (row : Option Nat) : Prop := ∀ (j : Nat) (v : Value), vs[j]? = some v → ∀ (t : TypeId) (a : Addr) (n c : Nat), v = .iface t (.slice (some a) n c) → some a.block ≠ row

theorem RepK.below {w w' : World} {l : List VV} {k : Nat} {vs : List Value} (h : RepK w l k vs) (hb : Below w.heap.size w w') : RepK w' l k vs :=
  ⟨h.1, fun j x v hx hv => by obtain ⟨y, h1, h2⟩ := h.2 j x v hx hv; exact ⟨y, h1, h2.below hb⟩⟩

theorem ins_step {B E : Nat} {w wr w1 w2 : World} {l : List VV} {k : Nat} {vs : List Value} {r v v' : Value} {x : VV} {y : SV} {o o2 : Obj}
    (hown : wr.ownsRow B E 1 r k vs) (hB : B ≤ wr.heap.size) (hrep : RepK wr l k vs) (hap : Apart vs r.ownBlock) (hl : k < l.length) (hx : l[k]? = some x)
    (hb1 : Below (wr.alloc o).heap.size (wr.alloc o) w1) (hrv : Rep w1 y v) (hsv : x.is y) (hnew : From (wr.alloc o).heap.size v)
    (hg2 : (w1.alloc o2).grownBy w2 r.ownBlock) (hat : v'.ownBlock = r.ownBlock ∨ v'.ownBlock = some (w1.alloc o2).heap.size) (hbw : Below B w wr) :
    RepK w2 l (k + 1) (vs ++ [v]) ∧ Apart (vs ++ [v]) v'.ownBlock ∧ Below B w w2 := by
  have hbA : Below wr.heap.size wr (w1.alloc o2) := ((((Below.refl _ _).alloc (Nat.le_refl _) o).trans (hb1.mono (by simp))).alloc (by have := hb1.size; simp at this; omega) o2)
  have hown0 : ∀ g, r.ownBlock = some g → B ≤ g ∧ g < wr.heap.size := hown.lt
  have hvlt : ∀ t a n c, v = .iface t (.slice (some a) n c) → some a.block ≠ r.ownBlock := by
    intro t a n c hv he
    have h1 := hnew t a n c hv
    have h2 := (hown0 _ he.symm).2
    simp at h1
    omega
  have hold : ∀ (j : Nat) (x : VV) (v : Value), l[j]? = some x → vs[j]? = some v → ∃ y, x.is y ∧ Rep (w1.alloc o2) y v := fun j x v hx hv => by
    obtain ⟨y, h1, h2⟩ := hrep.2 j x v hx hv
    exact ⟨y, h1, h2.below hbA⟩
  have hnewR : Rep (w1.alloc o2) y v := hrv.below ((Below.refl _ _).alloc (Nat.le_refl _) _)
  refine ⟨⟨by rw [List.length_append, hrep.1]; rfl, fun j z u hz hu => ?_⟩, fun j u hu t a n c hv => ?_, ?_⟩
  · rcases Nat.lt_or_ge j k with hj | hj
    · rw [List.getElem?_append_left (by rw [hrep.1]; exact hj)] at hu
      obtain ⟨y', h1, h2⟩ := hold j z u hz hu
      exact ⟨y', h1, h2.grown hg2 (hap j u hu)⟩
    · rw [List.getElem?_append_right (by rw [hrep.1]; exact hj), hrep.1] at hu
      have hjk : j = k := by
        rcases Nat.eq_or_lt_of_le hj with h | h
        · exact h.symm
        · rw [List.getElem?_eq_none (by simp; omega)] at hu; cases hu
      subst hjk
      rw [Nat.sub_self] at hu
      obtain rfl : u = v := (Option.some.inj hu).symm
      obtain rfl : z = x := Option.some.inj (hz.symm.trans hx)
      exact ⟨y, hsv, hnewR.grown hg2 hvlt⟩
  · have hlt : a.block < (w1.alloc o2).heap.size ∧ some a.block ≠ r.ownBlock := by
      rcases Nat.lt_or_ge j k with hj | hj
      · rw [List.getElem?_append_left (by rw [hrep.1]; exact hj)] at hu
        obtain ⟨y', _, h2⟩ := hold j l[j] u (List.getElem?_eq_getElem (by omega)) hu
        exact ⟨rep_lt h2 hv, hap j u hu t a n c hv⟩
      · rw [List.getElem?_append_right (by rw [hrep.1]; exact hj), hrep.1] at hu
        have hjk : j - k = 0 := by
          rcases Nat.eq_zero_or_pos (j - k) with h | h
          · exact h
          · rw [List.getElem?_eq_none (by simp; omega)] at hu; cases hu
        rw [hjk] at hu
        obtain rfl : u = v := (Option.some.inj hu).symm
        exact ⟨rep_lt hnewR hv, hvlt t a n c hv⟩
    rcases hat with h | h
    · rw [h]; exact hlt.2
    · rw [h]
      intro he
      have := Option.some.inj he
      omega
  · exact (hbw.trans (hbA.mono hB)).grown hg2 (by have := hbA.size; omega) (fun g hg => (hown0 g hg).1)

def InsPost (l : List VV) (w : World) (e : Ending) (w' : World) : Prop :=
  ∃ A c vs, e = .returned (.slice A l.length c) ∧ Reads w' w'.heap.size 1 A l.length vs ∧ RepK w' l l.length vs ∧ Below w.heap.size w w'

theorem info_iface : (Tryz.prog.info? 20).map (fun i => (i.zero, i.size, i.bytes)) = some (some .nilIface, 1, 16) := by kernel_rfl

theorem own_form {w : World} {base : Nat} {e : TypeId} {size : Nat} {v : Value} {n : Nat} {xs : List Value} (h : w.ownsRow base e size v n xs) : ∃ A c, v = .slice A n c := by
  rcases h.2 with ⟨rfl, rfl⟩ | ⟨g, cap, cur, rfl, _⟩
  · exact ⟨_, _, rfl⟩
  · exact ⟨_, _, rfl⟩

theorem rep_form {w : World} {y : SV} {v : Value} (h : Rep w y v) : v = .nilIface ∨ ∃ t u, v = .iface t u := by
  cases y with
  | blob l => obtain ⟨a, cap, rfl, _⟩ := h; exact .inr ⟨_, _, rfl⟩
  | null => exact .inl h
  | _ => exact .inr ⟨_, _, h⟩

theorem rep_one {w : World} {y : SV} {v : Value} (h : Rep w y v) : v.oneCell' = true := by
  cases y with
  | blob l => obtain ⟨a, cap, rfl, _⟩ := h; rfl
  | _ => (have h' : v = _ := h); rw [h']; rfl

end Go.Proofs.YtffgkocokkhahaaGreatDoor
