/-
  (*mem).clone of any values.
-/
import Derived.Test.YtffgkocokkhahaaGreatDoorMa
namespace Go.Proofs.YtffgkocokkhahaaGreatDoor
open Go.RowKit

theorem info_u8 : (Tryz.prog.info? 5).map (fun i => (i.zero, i.size, i.bytes)) = some (some (.int .u8 0), 1, 1) := by kernel_rfl

theorem conc_plain {x : VV} {y : SV} (hc : x.conc = true) (hi : x.is y) : y.isLit = false := by
  unfold VV.is at hi
  unfold VV.conc concB at hc
  rw [Bool.and_eq_true, Bool.and_eq_true] at hc
  have h1 := hc.1.2
  have h2 := hc.2
  unfold SVof at hi
  rw [h2] at hi
  simp only [Bool.true_eq_false, and_false, if_false] at hi
  subst hi
  revert h1
  cases Kd.of x.k.toList <;> simp [toSV, SV.isLit, Kd.ideal]

/-- The strings of a list's values are no longer than can be. -/
def FitL (l : List VV) : Prop := ∀ (j : Nat) (x : VV), l[j]? = some x → x.s.size ≤ 2147483647

theorem fit_blob {x : VV} {z : List UInt8} (hc : x.conc = true) (hf : x.s.size ≤ 2147483647) (hi : x.is (.blob z)) : z.length ≤ 2147483647 := by
  unfold VV.is at hi
  unfold VV.conc concB at hc
  rw [Bool.and_eq_true, Bool.and_eq_true] at hc
  have h2 := hc.2
  unfold SVof at hi
  rw [h2] at hi
  simp only [Bool.true_eq_false, and_false, if_false] at hi
  revert hi
  cases Kd.of x.k.toList <;> simp [toSV]
  rintro rfl
  simpa using hf

theorem own_gt {A : Option Addr} {n c B C : Nat} {a : Addr} (h : (Value.slice A n c).ownBlock = (Value.slice none 0 0).ownBlock ∨ (Value.slice A n c).ownBlock = some B) (hlt : C < B) (ha : A = some a) : C < a.block := by
  subst ha
  rcases h with h | h
  · simp [Value.ownBlock] at h
  · have : a.block = B := by simpa [Value.ownBlock] using h
    omega

theorem clone_skip {w wr : World} {l : List VV} {len k : Nat} {us : List Value} {x : VV}
    (hown : wr.ownsRow w.heap.size 20 1 (.slice (some ⟨w.heap.size, 0, none⟩) len len) len (us ++ List.replicate (len - k) .nilIface)) (hrep : RepKZ wr l k us)
    (hap : ∀ (j : Nat) (v : Value), us[j]? = some v → ∀ (t : TypeId) (a : Addr) (n c : Nat), v = .iface t (.slice (some a) n c) → w.heap.size < a.block) (hb : Below w.heap.size w wr) (hlt : k < len) (hx : l[k]? = some x) (hy : x.is .null) :
    wr.ownsRow w.heap.size 20 1 (.slice (some ⟨w.heap.size, 0, none⟩) len len) len ((us ++ [.nilIface]) ++ List.replicate (len - (k + 1)) .nilIface) ∧
    RepKZ wr l (k + 1) (us ++ [.nilIface]) ∧ (∀ (j : Nat) (u : Value), (us ++ [.nilIface])[j]? = some u → ∀ (t : TypeId) (a : Addr) (n c : Nat), u = .iface t (.slice (some a) n c) → w.heap.size < a.block) ∧ Below w.heap.size w wr := by
  refine ⟨?_, ⟨by rw [List.length_append, hrep.1]; rfl, fun j z u hz hu => ?_⟩, fun j u hu t a n c e => ?_, hb⟩
  · rw [show len - k = (len - (k + 1)) + 1 by omega, List.replicate_succ] at hown
    rw [List.append_assoc]
    exact hown
  · rcases Nat.lt_or_ge j k with hj | hj
    · rw [List.getElem?_append_left (by rw [hrep.1]; exact hj)] at hu
      exact hrep.2 j z u hz hu
    · have hjk : j = k := by
        have := (List.getElem?_eq_some_iff.1 hu).1
        rw [List.length_append, hrep.1] at this
        simp at this
        omega
      subst hjk
      rw [List.getElem?_append_right (by rw [hrep.1]; exact Nat.le_refl _), hrep.1, Nat.sub_self] at hu
      obtain rfl : u = .nilIface := (Option.some.inj hu).symm
      obtain rfl : z = x := Option.some.inj (hz.symm.trans hx)
      exact ⟨.null, hy, .inl rfl⟩
  · rcases List.mem_append.1 (List.mem_of_getElem? hu) with h | h
    · obtain ⟨i, hi⟩ := List.getElem?_of_mem h
      exact hap i u hi t a n c e
    · obtain rfl : u = .nilIface := by simpa using h
      cases e

set_option maxRecDepth 100000 in
set_option maxHeartbeats 6400000 in
theorem clone_any {D : Nat → Prop} (m : Nat) (l : List VV) (A : Option Addr) (c : Nat) (vs : List Value) (w : World) (h : InsZ D w l A vs) (hc : ConcL l) (hf : FitL l) (hm : l.length ≤ 1000000) :
    Calls Tryz.prog 78 #[.pointer (some ⟨m, 0, none⟩), .slice A l.length c] w (CloneP l w) := by
  obtain ⟨len, hlen⟩ : ∃ len, len = l.length := ⟨_, rfl⟩
  obtain ⟨i0, hi, hz0, hz1, hz2⟩ := info_parts info_iface
  obtain ⟨i8, hi8, hy0, hy1, hy2⟩ := info_parts info_u8
  obtain ⟨w1, hrun, hown, hg⟩ := run_make_full (P := Tryz.prog) w w.heap.size 87 20 i0 _ 1 Tryz.underlying87 hi hz0 hz1   .i64 .i64 len (by rw [hz2]; omega) (by simp only [maxLen]; omega) (Nat.le_refl _)
  have hr : (Instr.makeSlice 87 (.int .i64 len) (.int .i64 len)).run Tryz.prog w = .ok (.slice (some ⟨w.heap.size, 0, none⟩) len len) w1 := hrun
  have hb1 : Below w.heap.size w w1 := (Below.refl _ _).grown hg (Nat.le_refl _) (fun k h => by cases h)
  have HO1 : Hid (w1.ownsRow w.heap.size 20 1 (.slice (some ⟨w.heap.size, 0, none⟩) len len) len ([] ++ List.replicate (len - 0) .nilIface)) := Lib.hid (by
    have e : (madeCells (Value.nilIface).cells (len * 1)).toList = [] ++ List.replicate (len - 0) .nilIface := by rw [Nat.mul_one]; exact toList_madeCells_one _ _
    rw [← e]; exact hown)
  have HB1 := Lib.hid hb1
  have HS := Lib.hid h
  have HC := Lib.hid hc
  have HF := Lib.hid (fun k x z (h1 : l[k]? = some x) (h2 : x.is (.blob z)) => fit_blob (hc k x h1).1 (hf k x h1) h2)
  have HN := Lib.hid hlen
  unfold CloneP
  rw [← hlen] at hm ⊢
  clear hrun hown hg hb1 h hc hf hlen
  go_enter Tryz.func78, Tryz.ntmps78
  go_wp2
  go_loopw [35] (fun i wr => ∃ (k : Nat) (us : List Value), k ≤ len ∧ i = .int .i64 k ∧ wr.ownsRow w.heap.size 20 1 (.slice (some ⟨w.heap.size, 0, none⟩) len len) len (us ++ List.replicate (len - k) .nilIface) ∧ RepKZ wr l k us ∧
    (∀ (j : Nat) (v : Value), us[j]? = some v → ∀ (t : TypeId) (a : Addr) (n c : Nat), v = .iface t (.slice (some a) n c) → w.heap.size < a.block) ∧ Below w.heap.size w wr) (fun i _ => len - (intOf i).toNat)
  case atStart => exact ⟨0, [], by omega, rfl, HO1.out, ⟨rfl, fun j x v _ h => by simp at h⟩, fun j v h => by simp at h, HB1.out⟩
  case round =>
    obtain ⟨k, us, hk, rfl, hown, hrep, hap, hb⟩ := hrel
    have HO := Lib.hid hown
    have HR := Lib.hid hrep
    have HP := Lib.hid hap
    have HB := Lib.hid hb
    have hfz := hown.frozenAt k
    have lg : w.heap.size < wr.heap.size := own_ltm hown rfl
    by_cases hlt : k < len
    · have hcl : wr.cell? ⟨w.heap.size, k, none⟩ = some .nilIface := by
        have h0 := hown.cells (g := w.heap.size) rfl k .nilIface (by
          rw [List.getElem?_append_right (by rw [hrep.1]; exact Nat.le_refl _), hrep.1, Nat.sub_self, List.getElem?_replicate, if_pos (by omega)])
        rw [add_mk, Nat.zero_add] at h0
        exact h0
      clear hown hrep hap
      obtain ⟨x, hx⟩ : ∃ x, l[k]? = some x := ⟨_, List.getElem?_eq_getElem (by rw [← HN.out]; exact hlt)⟩
      have hS := HS.out.chg (S := fun _ => False) (Chg.of_below hb) (fun _ _ h => h)
      obtain ⟨ad, v, rfl, hbv, hv, hcv⟩ := hS.reads.at_ (k := k) (by rw [← HN.out]; exact hlt)
      obtain ⟨y, hy, hrv⟩ := hS.rep.2 k x v hx hv
      have hlit := conc_plain (HC.out k x hx).1 hy
      have HX := Lib.hid hx
      have HY := Lib.hid hy
      have fin0 : ∀ (W : World) (v' : Value), Below wr.heap.size wr W → RepZ W y v' → (∀ (t : TypeId) (a : Addr) (n c : Nat), v' = .iface t (.slice (some a) n c) → w.heap.size < a.block) → _ := fun W v' h1 h2 h3 => clone_step HO.out HR.out HP.out HB.out hlt HX.out h1 HY.out h2 h3
      have FIN := Lib.hid fin0
      clear hx hv hS hy hb fin0
      cases y with
      | null =>
        have e : v = .nilIface := hrv.elim id (fun h => by cases h.1)
        subst e
        go_wp2
        exact ⟨⟨k + 1, us ++ [.nilIface], by omega, by push_cast; rfl, clone_skip HO.out HR.out HP.out HB.out hlt HX.out HY.out⟩, by simp [intOf]; omega⟩
      | bool b =>
        have e : v = .iface 4 (.bool b) := hrv.elim id (fun h => by cases h.1)
        subst e
        go_wp2
        exact ⟨⟨k + 1, us ++ [.iface 4 (.bool b)], by omega, by push_cast; rfl, FIN.out wr _ (Below.refl _ _) (.inl rfl) (fun t a n c h => by injection h with _ h; cases h)⟩, by simp [intOf]; omega⟩
      | f32 z =>
        have e : v = .iface 161 (.float .f32 z) := hrv.elim id (fun h => by cases h.1)
        subst e
        go_wp2
        exact ⟨⟨k + 1, us ++ [.iface 161 (.float .f32 z)], by omega, by push_cast; rfl, FIN.out wr _ (Below.refl _ _) (.inl rfl) (fun t a n c h => by injection h with _ h; cases h)⟩, by simp [intOf]; omega⟩
      | f64 z =>
        have e : v = .iface 55 (.float .f64 z) := hrv.elim id (fun h => by cases h.1)
        subst e
        go_wp2
        exact ⟨⟨k + 1, us ++ [.iface 55 (.float .f64 z)], by omega, by push_cast; rfl, FIN.out wr _ (Below.refl _ _) (.inl rfl) (fun t a n c h => by injection h with _ h; cases h)⟩, by simp [intOf]; omega⟩
      | str z =>
        have e : v = .iface 9 (.string z) := hrv.elim id (fun h => by cases h.1)
        subst e
        go_wp2
        exact ⟨⟨k + 1, us ++ [.iface 9 (.string z)], by omega, by push_cast; rfl, FIN.out wr _ (Below.refl _ _) (.inl rfl) (fun t a n c h => by injection h with _ h; cases h)⟩, by simp [intOf]; omega⟩
      | int q z =>
        have e : v = .iface (kindT q) (.int q z) := hrv.elim id (fun h => by cases h.1)
        subst e
        cases q
        case i8 =>
          simp only [kindT] at hcv
          go_wp2
          exact ⟨⟨k + 1, us ++ [.iface 185 (.int .i8 z)], by omega, by push_cast; rfl, FIN.out wr (.iface 185 (.int .i8 z)) (Below.refl _ _) (.inl rfl) (fun t a n c h => by injection h with _ h; cases h)⟩, by simp [intOf]; omega⟩
        case i16 =>
          simp only [kindT] at hcv
          go_wp2
          exact ⟨⟨k + 1, us ++ [.iface 186 (.int .i16 z)], by omega, by push_cast; rfl, FIN.out wr (.iface 186 (.int .i16 z)) (Below.refl _ _) (.inl rfl) (fun t a n c h => by injection h with _ h; cases h)⟩, by simp [intOf]; omega⟩
        case i32 =>
          simp only [kindT] at hcv
          go_wp2
          exact ⟨⟨k + 1, us ++ [.iface 21 (.int .i32 z)], by omega, by push_cast; rfl, FIN.out wr (.iface 21 (.int .i32 z)) (Below.refl _ _) (.inl rfl) (fun t a n c h => by injection h with _ h; cases h)⟩, by simp [intOf]; omega⟩
        case i64 =>
          simp only [kindT] at hcv
          go_wp2
          exact ⟨⟨k + 1, us ++ [.iface 2 (.int .i64 z)], by omega, by push_cast; rfl, FIN.out wr (.iface 2 (.int .i64 z)) (Below.refl _ _) (.inl rfl) (fun t a n c h => by injection h with _ h; cases h)⟩, by simp [intOf]; omega⟩
        case u8 =>
          simp only [kindT] at hcv
          go_wp2
          exact ⟨⟨k + 1, us ++ [.iface 5 (.int .u8 z)], by omega, by push_cast; rfl, FIN.out wr (.iface 5 (.int .u8 z)) (Below.refl _ _) (.inl rfl) (fun t a n c h => by injection h with _ h; cases h)⟩, by simp [intOf]; omega⟩
        case u16 =>
          simp only [kindT] at hcv
          go_wp2
          exact ⟨⟨k + 1, us ++ [.iface 187 (.int .u16 z)], by omega, by push_cast; rfl, FIN.out wr (.iface 187 (.int .u16 z)) (Below.refl _ _) (.inl rfl) (fun t a n c h => by injection h with _ h; cases h)⟩, by simp [intOf]; omega⟩
        case u32 =>
          simp only [kindT] at hcv
          go_wp2
          exact ⟨⟨k + 1, us ++ [.iface 114 (.int .u32 z)], by omega, by push_cast; rfl, FIN.out wr (.iface 114 (.int .u32 z)) (Below.refl _ _) (.inl rfl) (fun t a n c h => by injection h with _ h; cases h)⟩, by simp [intOf]; omega⟩
        case u64 =>
          simp only [kindT] at hcv
          go_wp2
          exact ⟨⟨k + 1, us ++ [.iface 54 (.int .u64 z)], by omega, by push_cast; rfl, FIN.out wr (.iface 54 (.int .u64 z)) (Below.refl _ _) (.inl rfl) (fun t a n c h => by injection h with _ h; cases h)⟩, by simp [intOf]; omega⟩
      | blob z =>
        obtain ⟨A8, c8, e, hr8⟩ := hrv.blob
        subst e
        have HR8 := Lib.hid hr8
        have hz8 : z.length ≤ 2147483647 := HF.out k x z HX.out HY.out
        clear hr8 hrv
        go_wp2_with (first | (at_builtin; refine wpList_append_any _ rfl _ (.tmp 192) _ rfl w.heap.size 5 i8 _ 1 1 Tryz.underlying188 hi8 hy0 hy1 hy2 rfl (by omega) (.slice none 0 0) 0 [] rfl (World.ownsRow_nil _ _ _ _) wr.heap.size A8 z.length c8 (z.map byteV) rfl HR8.out (fun u hu => by (simp [byteV] at hu; obtain ⟨_, _, rfl⟩ := hu; rfl)) (by simp only [maxLen]; omega) (by omega) HB.out.size ?_; intro v2 w2 hown2 hg2 hat2; obtain ⟨A2, c2, rfl⟩ := own_form hown2; have hb2 : Below wr.heap.size wr w2 := (Below.refl _ _).grown hg2 (Nat.le_refl _) (fun k h => (by cases h)); have HB2 := Lib.hid hb2; have hcl2 : w2.cell? ⟨w.heap.size, k, none⟩ = some .nilIface := (hb2.cell lg).trans hcl; have hfz2 : w2.frozen? ⟨w.heap.size, k, none⟩ = false := (hb2.frozen lg).trans hfz; clear hb2; have HO2 := Lib.hid hown2; have HG2 := Lib.hid hg2; have HA2 := Lib.hid hat2; clear hown2 hg2 hat2))
        have hO2 := HO2.out
        rw [Nat.zero_add, List.nil_append] at hO2
        exact ⟨⟨k + 1, us ++ [.iface 188 (.slice A2 z.length c2)], by omega, by push_cast; rfl, FIN.out w2 _ HB2.out (repZ_own hO2) (fun t a n c h => by
          injection h with _ h
          injection h with h
          have := own_gt HA2.out lg h
          exact this)⟩, by simp [intOf]; omega⟩
      | iInt z => exact absurd hlit (by simp [SV.isLit])
      | iRune z => exact absurd hlit (by simp [SV.isLit])
      | iUint z => exact absurd hlit (by simp [SV.isLit])
      | iFloat z => exact absurd hlit (by simp [SV.isLit])
    · have hke : k = len := by omega
      subst hke
      go_wp2
      go_ret
      have hO := HO.out
      rw [Nat.sub_self, List.replicate_zero, List.append_nil] at hO
      have hlt := own_ltm hO rfl
      refine ⟨us, rfl, ⟨by rw [← HN.out]; exact Reads.of_own hO, by rw [← HN.out]; exact HR.out, fun ad e => ?_, fun j v hv t a n c e => ?_⟩, HB.out⟩
      · obtain rfl := Option.some.inj e
        exact ⟨Nat.le_refl _, hlt⟩
      · refine ⟨Nat.le_of_lt (HP.out j v hv t a n c e), ?_⟩
        have hj : j < l.length := by
          rw [← HN.out, ← HR.out.1]
          exact (List.getElem?_eq_some_iff.1 hv).1
        obtain ⟨y, _, hy⟩ := HR.out.2 j _ v (List.getElem?_eq_getElem hj) hv
        exact hy.lt e

end Go.Proofs.YtffgkocokkhahaaGreatDoor
