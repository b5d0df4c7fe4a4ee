/-
  The walk of laws.FnTreePlays: it returns true.
-/
import Derived.Test.YtffgkocokkhahaaDoorTp41
import Derived.Deep.RegionLaw
import Derived.Deep.CutBlock

/- The walk of laws.FnTreePlays: it returns true. -/
namespace Go.Proofs.YtffgkocokkhahaaDoor
open Go.RowKit

set_option maxRecDepth 100000 in
set_option maxHeartbeats 1600000 in
theorem lawTp_long (dsc : Bool) (dv : List RDV) (A : Option Addr) (c : Nat) (n : Int) (w : World) (HZ : Hid (Calls Tryd.prog 5 #[.slice A dv.length c] w fun e w' => e = .returned (.bool false) ∧ Below w.heap.size w w')) :
    Calls Tryd.prog 3 #[.bool dsc, .slice A dv.length c, .int .i64 n] w fun e w' => e = .returned (.bool true) ∧ Below w.heap.size w w' := by
  go_enter Tryd.func3, Tryd.ntmps3
  go_wp2_with (go_at_call 5; refine HZ.out.mono ?_; rintro e w1 ⟨rfl, hb1⟩)
  go_ret
  exact ⟨rfl, hb1⟩

set_option maxRecDepth 100000 in
set_option maxHeartbeats 1600000 in
theorem lawTp_out (dsc : Bool) (len : Nat) (A : Option Addr) (c : Nat) (n : Int) (w : World) (hbad : 900 < len ∨ n < 1 ∨ 3 < n) (HZ : Hid (Calls Tryd.prog 5 #[.slice A len c] w fun e w' => e = .returned (.bool true) ∧ Below w.heap.size w w'))
    (HG : Hid (∀ w', Below w.heap.size w w' → Calls Tryd.prog 6 #[] w' fun e w'' => e = .returned (.bool true) ∧ Below w'.heap.size w' w'')) :
    Calls Tryd.prog 3 #[.bool dsc, .slice A len c, .int .i64 n] w fun e w' => e = .returned (.bool true) ∧ Below w.heap.size w w' := by
  by_cases h1 : 900 < len
  · have d1 : decide (900 < len) = true := decide_eq_true h1
    clear hbad
    go_enter Tryd.func3, Tryd.ntmps3
    go_wp2_with (first
      | (go_at_call 5; refine HZ.out.mono ?_; rintro e w1 ⟨rfl, hb1⟩)
      | (go_at_call 6; refine (HG.out _ hb1).mono ?_; rintro e w2 ⟨rfl, hb2⟩))
    go_ret
    exact ⟨rfl, up_below' hb1 hb2⟩
  · have d1 : decide (900 < len) = false := decide_eq_false h1
    have d1' : decide ((900 : Int) < (len : Int)) = false := decide_eq_false (by omega)
    by_cases h2 : n < 1
    · have d2 : decide (n < 1) = true := decide_eq_true h2
      clear hbad
      go_enter Tryd.func3, Tryd.ntmps3
      go_wp2_with (first
        | (go_at_call 5; refine HZ.out.mono ?_; rintro e w1 ⟨rfl, hb1⟩)
        | (go_at_call 6; refine (HG.out _ hb1).mono ?_; rintro e w2 ⟨rfl, hb2⟩))
      go_ret
      exact ⟨rfl, up_below' hb1 hb2⟩
    · have h3 : 3 < n := by omega
      have d2 : decide (n < 1) = false := decide_eq_false h2
      have d3 : decide (3 < n) = true := decide_eq_true h3
      clear hbad
      go_enter Tryd.func3, Tryd.ntmps3
      go_wp2_with (first
        | (go_at_call 5; refine HZ.out.mono ?_; rintro e w1 ⟨rfl, hb1⟩)
        | (go_at_call 6; refine (HG.out _ hb1).mono ?_; rintro e w2 ⟨rfl, hb2⟩))
      go_ret
      exact ⟨rfl, up_below' hb1 hb2⟩

theorem opT_s (o : TOp) : opT o.s = some o := by cases o <;> kernel_rfl

/-- Whether a deed of this name has a key. -/
def keyO (op : ByteArray) : Bool := match opT op with
  | some o => o.keyed
  | none => false
theorem keyO_s (o : TOp) : keyO o.s = o.keyed := by unfold keyO; rw [opT_s]
theorem keyO_none {op : ByteArray} (h : opT op = none) : keyO op = false := by unfold keyO; rw [h]

theorem pass_g {n : Int} {op : ByteArray} {dA dB : Option Addr} {dc dd : Nat} {dK dV : List VV} {dN : Int} (hs : (opT op).isSome = true) (hk : keyO op = false ∨ isKeyB dK n = true) (hv : concL dV 10 = true) (h1 : -1000 ≤ dN) (h2 : dN ≤ 1000) (h3 : 0 ≤ dN ∨ op = TOp.seek.s) : deedB n ⟨op, dA, dc, dK, dB, dd, dV, dN⟩ = true := by
  cases ho : opT op with
  | none => rw [ho] at hs; cases hs
  | some o =>
    have hkk : (!o.keyed || isKeyB dK n) = true := by
      rcases hk with hk | hk
      · unfold keyO at hk
        rw [ho] at hk
        simp only at hk
        rw [hk]
        rfl
      · rw [hk]; simp
    have h4 : (decide (0 ≤ dN) || o == TOp.seek) = true := by
      rcases h3 with h3 | h3
      · simp [h3]
      · subst h3
        rw [opT_s] at ho
        obtain rfl := Option.some.inj ho
        simp
    unfold deedB
    rw [show opT (⟨op, dA, dc, dK, dB, dd, dV, dN⟩ : RDV).op = some o from ho]
    simp only [hkk, hv, h4, h1, h2, decide_true, Bool.and_self]

theorem next_all {dv : List RDV} {n : Int} {k : Nat} {d : RDV} (hall : ∀ (j : Nat) (y : RDV), j < k → dv[j]? = some y → deedB n y = true) (hd : dv[k]? = some d) (h : deedB n d = true) : ∀ (j : Nat) (y : RDV), j < k + 1 → dv[j]? = some y → deedB n y = true := by
  intro j y hj hy
  rcases Nat.lt_or_ge j k with h' | h'
  · exact hall j y h' hy
  · obtain rfl : j = k := by omega
    obtain rfl := Option.some.inj (hy.symm.trans hd)
    exact h

set_option maxRecDepth 100000 in
set_option maxHeartbeats 25600000 in
theorem lawTp_fits (dsc : Bool) (dv : List RDV) (A : Option Addr) (c : Nat) (n : Int) (w : World) (hl : RDeedsAt w A dv) (hr : ∀ d ∈ dv, DeedRng d) {E : Value} (hE : HasEof w E) (h900 : dv.length ≤ 900) (hn1 : 1 ≤ n) (hn3 : n ≤ 3) (hfit : fits12B dv = true)
    (HZ : Hid (Calls Tryd.prog 5 #[.slice A dv.length c] w fun e w' => e = .returned (.bool true) ∧ Below w.heap.size w w')) :
    Calls Tryd.prog 3 #[.bool dsc, .slice A dv.length c, .int .i64 n] w fun e w' => e = .returned (.bool true) ∧ Below w.heap.size w w' := by
  have HG : Hid (∀ w', Below w.heap.size w w' → Calls Tryd.prog 6 #[] w' fun e w'' => e = .returned (.bool true) ∧ Below w'.heap.size w' w'') := Lib.hid (fun w' hb => grows_any (hE.below hb))
  have HL := Lib.hid hl
  have HR := Lib.hid hr
  have HE := Lib.hid hE
  have HF := Lib.hid (fits12_K hfit)
  obtain ⟨nn, hnn⟩ : ∃ nn : Nat, n = nn := ⟨n.toNat, by omega⟩
  have HNN := Lib.hid hnn
  obtain ⟨len, hlen⟩ : ∃ len, len = dv.length := ⟨_, rfl⟩
  have HN := Lib.hid hlen
  rw [← hlen] at HZ h900 ⊢
  clear hl hr hE hfit hnn hlen
  have f1 : decide (900 < len) = false := decide_eq_false (by omega)
  have f2 : decide (n < 1) = false := decide_eq_false (by omega)
  have f3 : decide (3 < n) = false := decide_eq_false (by omega)
  have f4 : decide ((900 : Int) < (len : Int)) = false := decide_eq_false (by omega)
  go_enter Tryd.func3, Tryd.ntmps3
  go_wp2_with (go_at_call 5; refine HZ.out.mono ?_; rintro e w0 ⟨rfl, hb0⟩; have HB0 : Hid (Below w.heap.size w w0) := Lib.hid hb0)
  go_loopw [31] (fun i wr => ∃ k : Nat, k ≤ len ∧ i = .int .i64 (k : Int) ∧ Below w.heap.size w wr ∧ ∀ (j : Nat) (y : RDV), j < k → dv[j]? = some y → deedB n y = true) (fun i _ => len - (intOf i).toNat)
  case atStart => exact ⟨0, by omega, rfl, HB0.out, fun j y hj => by omega⟩
  case round =>
    obtain ⟨k, hk, rfl, hb, hall⟩ := hrel
    have HALL := Lib.hid hall
    have HB := Lib.hid hb
    clear hall
    by_cases hlt : k < len
    · obtain ⟨d, hd⟩ : ∃ d, dv[k]? = some d := ⟨_, List.getElem?_eq_getElem (by rw [← HN.out]; exact hlt)⟩
      have hdm := List.mem_of_getElem? hd
      have HNX := Lib.hid (next_all HALL.out hd)
      obtain ⟨⟨ad, rfl, hbl, h0, h1, h2, h3⟩, hK, hV⟩ := (HL.out.below hb) k d hd
      have hkl := HF.out d hdm
      obtain ⟨op, dA, dc, dK, dB, dd, dV, dN⟩ := d
      simp only at h0 h1 h2 h3 hK hV hkl
      have HKK := Lib.hid (fun (w' : World) (hb' : Below (wr.alloc (.cells #[.string op, .slice dA dK.length dc, .slice dB dV.length dd, .int .i64 dN] 27)).heap.size (wr.alloc (.cells #[.string op, .slice dA dK.length dc, .slice dB dV.length dd, .int .i64 dN] 27)) w') => isKey_any dK dA dc n w' (hK.below (up_below' ((Below.refl _ _).alloc (Nat.le_refl _) _) hb')) (by omega))
      have HVV := Lib.hid (fun (w' : World) (hb' : Below (wr.alloc (.cells #[.string op, .slice dA dK.length dc, .slice dB dV.length dd, .int .i64 dN] 27)).heap.size (wr.alloc (.cells #[.string op, .slice dA dK.length dc, .slice dB dV.length dd, .int .i64 dN] 27)) w') => allConcrete_any dV dB dd 10 w' (hV.below (up_below' ((Below.refl _ _).alloc (Nat.le_refl _) _) hb')) (by omega))
      have HBA : Hid (Below w.heap.size w (wr.alloc (.cells #[.string op, .slice dA dK.length dc, .slice dB dV.length dd, .int .i64 dN] 27))) := Lib.hid (hb.alloc hb.size _)
      have HXA : Hid ((wr.alloc (.cells #[.string op, .slice dA dK.length dc, .slice dB dV.length dd, .int .i64 dN] 27)).heap[wr.heap.size]? = some (.cells #[.string op, .slice dA dK.length dc, .slice dB dV.length dd, .int .i64 dN] 27 (0, 0))) := Lib.hid (heap_new wr _)
      have HRN := Lib.hid (HR.out _ hdm)
      clear hd hdm hK hV hkl hb
      have x0 := cell_of_heap HXA.out 0
      have x1 := cell_of_heap HXA.out 1
      have x2 := cell_of_heap HXA.out 2
      have x3 := cell_of_heap HXA.out 3
      simp only [List.getElem?_toArray, List.getElem?_cons_zero, List.getElem?_cons_succ] at x0 x1 x2 x3
      go_upto_region 9 with fail
      obtain ⟨WA, hWA⟩ : ∃ WA, WA = wr.alloc (.cells #[.string op, .slice dA dK.length dc, .slice dB dV.length dd, .int .i64 dN] 27) := ⟨_, rfl⟩
      rw [← hWA] at HKK HVV HBA HXA x0 x1 x2 x3 ⊢
      clear hWA h0 h1 h2 h3
      go_cut [9, 31] from 31 to 104 (fun s9 s31 wx => s9 = .bool (keyO op) ∧ s31 = .int .i64 (k : Int) ∧ wx = WA)
      case first =>
        clear HKK HVV HRN
        cases hop : opT op with
        | none =>
          obtain ⟨t1, t2, t3, t4, t5, t6, t7, t8, t9⟩ := opT_none hop
          have hko := keyO_none hop
          clear hop
          go_wp2
          go_meet
          exact ⟨by first | (rw [hko]; done) | (rw [hko]; rfl) | rfl, rfl, rfl⟩
        | some o =>
          obtain rfl := opT_some hop
          clear hop
          have hko := keyO_s o
          cases o <;>
          · simp only [TOp.s] at x0
            go_wp2
            go_meet
            exact ⟨by first | (rw [hko]; done) | (rw [hko]; rfl) | rfl, rfl, rfl⟩
      case rest =>
        obtain ⟨r9, r31, hw9⟩ := hcut
        subst r9 r31 hw9
        go_upto_block 2 with fail
        go_cut [31] from 31 to 104 (fun s31 wx => s31 = .int .i64 (k : Int) ∧ wx = wc ∧ (opT op).isSome = true)
        case first =>
          clear HKK HVV HRN
          cases hop : opT op with
          | none =>
            obtain ⟨t1, t2, t3, t4, t5, t6, t7, t8, t9⟩ := opT_none hop
            clear hop
            go_wp2_with (go_at_call 6; refine (HG.out _ HBA.out).mono ?_; rintro e w3 ⟨rfl, hb3⟩)
            go_ret
            exact ⟨rfl, up_below' HBA.out hb3⟩
          | some o =>
            obtain rfl := opT_some hop
            clear hop
            have hss : (opT o.s).isSome = true := by rw [opT_s]; rfl
            cases o <;>
            · simp only [TOp.s] at x0 ⊢
              have HSS := Lib.hid hss
              clear hss
              go_wp2
              go_meet
              exact ⟨rfl, rfl, HSS.out⟩
        case rest =>
          rename World => wd
          obtain ⟨r31, hw9, hiss⟩ := hcut
          subst r31 hw9
          have HIS := Lib.hid hiss
          clear hiss
          cases hkb : keyO op with
          | true =>
            have HKB := Lib.hid hkb
            clear hkb
            cases hk : isKeyB dK n with
            | false =>
              rw [hk] at HKK
              clear hk
              go_wp2_with (first
                | (go_at_call 7; refine (HKK.out _ (Below.refl _ _)).mono ?_; rintro e w1 ⟨rfl, hb1⟩; have HB1 : Hid (Below w.heap.size w w1) := Lib.hid (up_below' HBA.out hb1); have HX1 := Lib.hid (heap_below HXA.out hb1); have x0 := cell_of_heap HX1.out 0; have x2 := cell_of_heap HX1.out 2; have x3 := cell_of_heap HX1.out 3; simp only [List.getElem?_toArray, List.getElem?_cons_zero, List.getElem?_cons_succ] at x0 x2 x3; have HV1 := Lib.hid (fun (w' : World) (hb : Below w1.heap.size w1 w') => HVV.out w' (up_below' hb1 hb)); clear hb1)
                | (go_at_call 6; refine (HG.out _ (by first | exact HB2.out | exact HB1.out | exact HBA.out)).mono ?_; rintro e w3 ⟨rfl, hb3⟩))
              go_ret
              exact ⟨rfl, up_below' (by first | exact HB2.out | exact HB1.out | exact HBA.out) hb3⟩
            | true =>
              rw [hk] at HKK
              have HKT : Hid (keyO op = false ∨ isKeyB dK n = true) := Lib.hid (.inr hk)
              clear hk
              cases hv : concL dV 10 with
              | false =>
                rw [hv] at HVV
                clear hv
                go_wp2_with (first
                  | (go_at_call 7; refine (HKK.out _ (Below.refl _ _)).mono ?_; rintro e w1 ⟨rfl, hb1⟩; have HB1 : Hid (Below w.heap.size w w1) := Lib.hid (up_below' HBA.out hb1); have HX1 := Lib.hid (heap_below HXA.out hb1); have x0 := cell_of_heap HX1.out 0; have x2 := cell_of_heap HX1.out 2; have x3 := cell_of_heap HX1.out 3; simp only [List.getElem?_toArray, List.getElem?_cons_zero, List.getElem?_cons_succ] at x0 x2 x3; have HV1 := Lib.hid (fun (w' : World) (hb : Below w1.heap.size w1 w') => HVV.out w' (up_below' hb1 hb)); clear hb1)
                  | (go_at_call 8; refine (HV1.out _ (Below.refl _ _)).mono ?_; rintro e w2 ⟨rfl, hb2⟩; have HB2 : Hid (Below w.heap.size w w2) := Lib.hid (up_below' HB1.out hb2); have HX2 := Lib.hid (heap_below HX1.out hb2); have z0 := cell_of_heap HX2.out 0; have z3 := cell_of_heap HX2.out 3; simp only [List.getElem?_toArray, List.getElem?_cons_zero, List.getElem?_cons_succ] at z0 z3; clear hb2)
                  | (go_at_call 6; refine (HG.out _ (by first | exact HB2.out | exact HB1.out | exact HBA.out)).mono ?_; rintro e w3 ⟨rfl, hb3⟩))
                go_ret
                exact ⟨rfl, up_below' (by first | exact HB2.out | exact HB1.out | exact HBA.out) hb3⟩
              | true =>
                rw [hv] at HVV
                have HVT := Lib.hid hv
                clear hv
                by_cases n1 : dN < -1000
                · have e1 : decide (dN < -1000) = true := decide_eq_true n1
                  go_wp2_with (first
                    | (go_at_call 7; refine (HKK.out _ (Below.refl _ _)).mono ?_; rintro e w1 ⟨rfl, hb1⟩; have HB1 : Hid (Below w.heap.size w w1) := Lib.hid (up_below' HBA.out hb1); have HX1 := Lib.hid (heap_below HXA.out hb1); have x0 := cell_of_heap HX1.out 0; have x2 := cell_of_heap HX1.out 2; have x3 := cell_of_heap HX1.out 3; simp only [List.getElem?_toArray, List.getElem?_cons_zero, List.getElem?_cons_succ] at x0 x2 x3; have HV1 := Lib.hid (fun (w' : World) (hb : Below w1.heap.size w1 w') => HVV.out w' (up_below' hb1 hb)); clear hb1)
                    | (go_at_call 8; refine (HV1.out _ (Below.refl _ _)).mono ?_; rintro e w2 ⟨rfl, hb2⟩; have HB2 : Hid (Below w.heap.size w w2) := Lib.hid (up_below' HB1.out hb2); have HX2 := Lib.hid (heap_below HX1.out hb2); have z0 := cell_of_heap HX2.out 0; have z3 := cell_of_heap HX2.out 3; simp only [List.getElem?_toArray, List.getElem?_cons_zero, List.getElem?_cons_succ] at z0 z3; clear hb2)
                    | (go_at_call 6; refine (HG.out _ (by first | exact HB2.out | exact HB1.out | exact HBA.out)).mono ?_; rintro e w3 ⟨rfl, hb3⟩))
                  go_ret
                  exact ⟨rfl, up_below' (by first | exact HB2.out | exact HB1.out | exact HBA.out) hb3⟩
                have e1 : decide (dN < -1000) = false := decide_eq_false n1
                by_cases n2 : 1000 < dN
                · have e2 : decide (1000 < dN) = true := decide_eq_true n2
                  go_wp2_with (first
                    | (go_at_call 7; refine (HKK.out _ (Below.refl _ _)).mono ?_; rintro e w1 ⟨rfl, hb1⟩; have HB1 : Hid (Below w.heap.size w w1) := Lib.hid (up_below' HBA.out hb1); have HX1 := Lib.hid (heap_below HXA.out hb1); have x0 := cell_of_heap HX1.out 0; have x2 := cell_of_heap HX1.out 2; have x3 := cell_of_heap HX1.out 3; simp only [List.getElem?_toArray, List.getElem?_cons_zero, List.getElem?_cons_succ] at x0 x2 x3; have HV1 := Lib.hid (fun (w' : World) (hb : Below w1.heap.size w1 w') => HVV.out w' (up_below' hb1 hb)); clear hb1)
                    | (go_at_call 8; refine (HV1.out _ (Below.refl _ _)).mono ?_; rintro e w2 ⟨rfl, hb2⟩; have HB2 : Hid (Below w.heap.size w w2) := Lib.hid (up_below' HB1.out hb2); have HX2 := Lib.hid (heap_below HX1.out hb2); have z0 := cell_of_heap HX2.out 0; have z3 := cell_of_heap HX2.out 3; simp only [List.getElem?_toArray, List.getElem?_cons_zero, List.getElem?_cons_succ] at z0 z3; clear hb2)
                    | (go_at_call 6; refine (HG.out _ (by first | exact HB2.out | exact HB1.out | exact HBA.out)).mono ?_; rintro e w3 ⟨rfl, hb3⟩))
                  go_ret
                  exact ⟨rfl, up_below' (by first | exact HB2.out | exact HB1.out | exact HBA.out) hb3⟩
                have e2 : decide (1000 < dN) = false := decide_eq_false n2
                by_cases n3 : dN < 0
                · have e3 : decide (dN < 0) = true := decide_eq_true n3
                  cases hsk : (op.toList == [115, 101, 101, 107]) with
                  | false =>
                    go_wp2_with (first
                      | (go_at_call 7; refine (HKK.out _ (Below.refl _ _)).mono ?_; rintro e w1 ⟨rfl, hb1⟩; have HB1 : Hid (Below w.heap.size w w1) := Lib.hid (up_below' HBA.out hb1); have HX1 := Lib.hid (heap_below HXA.out hb1); have x0 := cell_of_heap HX1.out 0; have x2 := cell_of_heap HX1.out 2; have x3 := cell_of_heap HX1.out 3; simp only [List.getElem?_toArray, List.getElem?_cons_zero, List.getElem?_cons_succ] at x0 x2 x3; have HV1 := Lib.hid (fun (w' : World) (hb : Below w1.heap.size w1 w') => HVV.out w' (up_below' hb1 hb)); clear hb1)
                      | (go_at_call 8; refine (HV1.out _ (Below.refl _ _)).mono ?_; rintro e w2 ⟨rfl, hb2⟩; have HB2 : Hid (Below w.heap.size w w2) := Lib.hid (up_below' HB1.out hb2); have HX2 := Lib.hid (heap_below HX1.out hb2); have z0 := cell_of_heap HX2.out 0; have z3 := cell_of_heap HX2.out 3; simp only [List.getElem?_toArray, List.getElem?_cons_zero, List.getElem?_cons_succ] at z0 z3; clear hb2)
                      | (go_at_call 6; refine (HG.out _ (by first | exact HB2.out | exact HB1.out | exact HBA.out)).mono ?_; rintro e w3 ⟨rfl, hb3⟩))
                    go_ret
                    exact ⟨rfl, up_below' (by first | exact HB2.out | exact HB1.out | exact HBA.out) hb3⟩
                  | true =>
                    have hsl : op.toList = [115, 101, 101, 107] := by simpa using hsk
                    have HPASS := Lib.hid (pass_g (dA := dA) (dB := dB) (dc := dc) (dd := dd) (dN := dN) HIS.out HKT.out HVT.out (by omega) (by omega) (.inr (ba_of hsl)))
                    go_wp2_with (first
                      | (go_at_call 7; refine (HKK.out _ (Below.refl _ _)).mono ?_; rintro e w1 ⟨rfl, hb1⟩; have HB1 : Hid (Below w.heap.size w w1) := Lib.hid (up_below' HBA.out hb1); have HX1 := Lib.hid (heap_below HXA.out hb1); have x0 := cell_of_heap HX1.out 0; have x2 := cell_of_heap HX1.out 2; have x3 := cell_of_heap HX1.out 3; simp only [List.getElem?_toArray, List.getElem?_cons_zero, List.getElem?_cons_succ] at x0 x2 x3; have HV1 := Lib.hid (fun (w' : World) (hb : Below w1.heap.size w1 w') => HVV.out w' (up_below' hb1 hb)); clear hb1)
                      | (go_at_call 8; refine (HV1.out _ (Below.refl _ _)).mono ?_; rintro e w2 ⟨rfl, hb2⟩; have HB2 : Hid (Below w.heap.size w w2) := Lib.hid (up_below' HB1.out hb2); have HX2 := Lib.hid (heap_below HX1.out hb2); have z0 := cell_of_heap HX2.out 0; have z3 := cell_of_heap HX2.out 3; simp only [List.getElem?_toArray, List.getElem?_cons_zero, List.getElem?_cons_succ] at z0 z3; clear hb2))
                    exact ⟨⟨k + 1, by omega, by push_cast; rfl, HB2.out, HNX.out HPASS.out⟩, by simp [intOf]; omega⟩
                have e3 : decide (dN < 0) = false := decide_eq_false n3
                have HPASS := Lib.hid (pass_g (dA := dA) (dB := dB) (dc := dc) (dd := dd) (dN := dN) HIS.out HKT.out HVT.out (by omega) (by omega) (.inl (by omega)))
                go_wp2_with (first
                  | (go_at_call 7; refine (HKK.out _ (Below.refl _ _)).mono ?_; rintro e w1 ⟨rfl, hb1⟩; have HB1 : Hid (Below w.heap.size w w1) := Lib.hid (up_below' HBA.out hb1); have HX1 := Lib.hid (heap_below HXA.out hb1); have x0 := cell_of_heap HX1.out 0; have x2 := cell_of_heap HX1.out 2; have x3 := cell_of_heap HX1.out 3; simp only [List.getElem?_toArray, List.getElem?_cons_zero, List.getElem?_cons_succ] at x0 x2 x3; have HV1 := Lib.hid (fun (w' : World) (hb : Below w1.heap.size w1 w') => HVV.out w' (up_below' hb1 hb)); clear hb1)
                  | (go_at_call 8; refine (HV1.out _ (Below.refl _ _)).mono ?_; rintro e w2 ⟨rfl, hb2⟩; have HB2 : Hid (Below w.heap.size w w2) := Lib.hid (up_below' HB1.out hb2); have HX2 := Lib.hid (heap_below HX1.out hb2); have z0 := cell_of_heap HX2.out 0; have z3 := cell_of_heap HX2.out 3; simp only [List.getElem?_toArray, List.getElem?_cons_zero, List.getElem?_cons_succ] at z0 z3; clear hb2))
                exact ⟨⟨k + 1, by omega, by push_cast; rfl, HB2.out, HNX.out HPASS.out⟩, by simp [intOf]; omega⟩
          | false =>
            have HKB := Lib.hid hkb
            clear hkb
            have HKT : Hid (keyO op = false ∨ isKeyB dK n = true) := Lib.hid (.inl HKB.out)
            cases hv : concL dV 10 with
            | false =>
              rw [hv] at HVV
              clear hv
              go_wp2_with (first
                | (go_at_call 8; refine (HVV.out _ (Below.refl _ _)).mono ?_; rintro e w2 ⟨rfl, hb2⟩; have HB2 : Hid (Below w.heap.size w w2) := Lib.hid (up_below' HBA.out hb2); have HX2 := Lib.hid (heap_below HXA.out hb2); have z0 := cell_of_heap HX2.out 0; have z3 := cell_of_heap HX2.out 3; simp only [List.getElem?_toArray, List.getElem?_cons_zero, List.getElem?_cons_succ] at z0 z3; clear hb2)
                | (go_at_call 6; refine (HG.out _ (by first | exact HB2.out | exact HB1.out | exact HBA.out)).mono ?_; rintro e w3 ⟨rfl, hb3⟩))
              go_ret
              exact ⟨rfl, up_below' (by first | exact HB2.out | exact HB1.out | exact HBA.out) hb3⟩
            | true =>
              rw [hv] at HVV
              have HVT := Lib.hid hv
              clear hv
              by_cases n1 : dN < -1000
              · have e1 : decide (dN < -1000) = true := decide_eq_true n1
                go_wp2_with (first
                  | (go_at_call 8; refine (HVV.out _ (Below.refl _ _)).mono ?_; rintro e w2 ⟨rfl, hb2⟩; have HB2 : Hid (Below w.heap.size w w2) := Lib.hid (up_below' HBA.out hb2); have HX2 := Lib.hid (heap_below HXA.out hb2); have z0 := cell_of_heap HX2.out 0; have z3 := cell_of_heap HX2.out 3; simp only [List.getElem?_toArray, List.getElem?_cons_zero, List.getElem?_cons_succ] at z0 z3; clear hb2)
                  | (go_at_call 6; refine (HG.out _ (by first | exact HB2.out | exact HB1.out | exact HBA.out)).mono ?_; rintro e w3 ⟨rfl, hb3⟩))
                go_ret
                exact ⟨rfl, up_below' (by first | exact HB2.out | exact HB1.out | exact HBA.out) hb3⟩
              have e1 : decide (dN < -1000) = false := decide_eq_false n1
              by_cases n2 : 1000 < dN
              · have e2 : decide (1000 < dN) = true := decide_eq_true n2
                go_wp2_with (first
                  | (go_at_call 8; refine (HVV.out _ (Below.refl _ _)).mono ?_; rintro e w2 ⟨rfl, hb2⟩; have HB2 : Hid (Below w.heap.size w w2) := Lib.hid (up_below' HBA.out hb2); have HX2 := Lib.hid (heap_below HXA.out hb2); have z0 := cell_of_heap HX2.out 0; have z3 := cell_of_heap HX2.out 3; simp only [List.getElem?_toArray, List.getElem?_cons_zero, List.getElem?_cons_succ] at z0 z3; clear hb2)
                  | (go_at_call 6; refine (HG.out _ (by first | exact HB2.out | exact HB1.out | exact HBA.out)).mono ?_; rintro e w3 ⟨rfl, hb3⟩))
                go_ret
                exact ⟨rfl, up_below' (by first | exact HB2.out | exact HB1.out | exact HBA.out) hb3⟩
              have e2 : decide (1000 < dN) = false := decide_eq_false n2
              by_cases n3 : dN < 0
              · have e3 : decide (dN < 0) = true := decide_eq_true n3
                cases hsk : (op.toList == [115, 101, 101, 107]) with
                | false =>
                  go_wp2_with (first
                    | (go_at_call 8; refine (HVV.out _ (Below.refl _ _)).mono ?_; rintro e w2 ⟨rfl, hb2⟩; have HB2 : Hid (Below w.heap.size w w2) := Lib.hid (up_below' HBA.out hb2); have HX2 := Lib.hid (heap_below HXA.out hb2); have z0 := cell_of_heap HX2.out 0; have z3 := cell_of_heap HX2.out 3; simp only [List.getElem?_toArray, List.getElem?_cons_zero, List.getElem?_cons_succ] at z0 z3; clear hb2)
                    | (go_at_call 6; refine (HG.out _ (by first | exact HB2.out | exact HB1.out | exact HBA.out)).mono ?_; rintro e w3 ⟨rfl, hb3⟩))
                  go_ret
                  exact ⟨rfl, up_below' (by first | exact HB2.out | exact HB1.out | exact HBA.out) hb3⟩
                | true =>
                  have hsl : op.toList = [115, 101, 101, 107] := by simpa using hsk
                  have HPASS := Lib.hid (pass_g (dA := dA) (dB := dB) (dc := dc) (dd := dd) (dN := dN) HIS.out HKT.out HVT.out (by omega) (by omega) (.inr (ba_of hsl)))
                  go_wp2_with (first
                    | (go_at_call 8; refine (HVV.out _ (Below.refl _ _)).mono ?_; rintro e w2 ⟨rfl, hb2⟩; have HB2 : Hid (Below w.heap.size w w2) := Lib.hid (up_below' HBA.out hb2); have HX2 := Lib.hid (heap_below HXA.out hb2); have z0 := cell_of_heap HX2.out 0; have z3 := cell_of_heap HX2.out 3; simp only [List.getElem?_toArray, List.getElem?_cons_zero, List.getElem?_cons_succ] at z0 z3; clear hb2))
                  exact ⟨⟨k + 1, by omega, by push_cast; rfl, HB2.out, HNX.out HPASS.out⟩, by simp [intOf]; omega⟩
              have e3 : decide (dN < 0) = false := decide_eq_false n3
              have HPASS := Lib.hid (pass_g (dA := dA) (dB := dB) (dc := dc) (dd := dd) (dN := dN) HIS.out HKT.out HVT.out (by omega) (by omega) (.inl (by omega)))
              go_wp2_with (first
                | (go_at_call 8; refine (HVV.out _ (Below.refl _ _)).mono ?_; rintro e w2 ⟨rfl, hb2⟩; have HB2 : Hid (Below w.heap.size w w2) := Lib.hid (up_below' HBA.out hb2); have HX2 := Lib.hid (heap_below HXA.out hb2); have z0 := cell_of_heap HX2.out 0; have z3 := cell_of_heap HX2.out 3; simp only [List.getElem?_toArray, List.getElem?_cons_zero, List.getElem?_cons_succ] at z0 z3; clear hb2))
              exact ⟨⟨k + 1, by omega, by push_cast; rfl, HB2.out, HNX.out HPASS.out⟩, by simp [intOf]; omega⟩
    · have hke : k = len := by omega
      subst hke
      have HALL2 : Hid (∀ d ∈ dv, deedB (nn : Int) d = true) := Lib.hid (fun d hd => by
        obtain ⟨j, hj, rfl⟩ := List.getElem_of_mem hd
        have := HALL.out j _ (by rw [HN.out]; exact hj) (List.getElem?_eq_getElem hj)
        rw [HNN.out] at this
        exact this)
      have HT := Lib.hid (treeL_any (c := c) (dsc := dsc) HN.out (by have := HNN.out; omega) HALL2.out HR.out h900 (HE.out.below HB.out) (HL.out.below HB.out))
      have hkk : ((k : Int) != (k : Int)) = false := by simp
      clear hb
      go_wp2_with (go_at_call 9
                   refine HT.out.mono ?_
                   rintro y w2 ⟨A2, c2, av, rfl, hal, hans, hsay, hb2⟩
                   have HAL := Lib.hid hal
                   have HAN := Lib.hid hans
                   have HSY := Lib.hid hsay
                   have HB2 : Hid (Below w.heap.size w w2) := Lib.hid (up_below' HB.out hb2)
                   clear hal hans hsay hb2)
      go_loopw [11, 115] (fun now i wq => ∃ (k2 : Nat) (A' : Option Addr) (c' : Nat) (ps : List PairV), k2 ≤ k ∧ i = .int .i64 (k2 : Int) ∧ LawL dsc nn dv k2 now w2 wq A' c' ps) (fun _ i _ => k - (intOf i).toNat)
      case atStart => exact ⟨0, none, 0, [], by omega, rfl, LawL.start _ _ _ _⟩
      case round =>
        rename World => wq
        obtain ⟨k2, A', c', ps, hk2, rfl, hLL⟩ := hrel
        obtain rfl := hLL.val
        have HLL := Lib.hid hLL
        by_cases hlt : k2 < k
        · obtain ⟨d, hd⟩ : ∃ d, dv[k2]? = some d := ⟨_, List.getElem?_eq_getElem (by rw [← HN.out]; exact hlt)⟩
          obtain ⟨a, ha⟩ : ∃ a, av[k2]? = some a := ⟨_, List.getElem?_eq_getElem (by rw [HAL.out]; exact hlt)⟩
          have hdm := List.mem_of_getElem? hd
          obtain ⟨⟨ad, rfl, hbl, h0, h1, h2, h3⟩, hK, hV⟩ := (HL.out.below HB2.out) k2 d hd
          obtain ⟨⟨bd, rfl, hbm, g0, g1, g2, g3⟩, hus, hrs⟩ := HAN.out k2 a ha
          have HST := Lib.hid (fun (w' : World) (hb : Below wq.heap.size wq w') => law_step hLL (by have := HNN.out; omega) (by have := HNN.out; omega) (by rw [← HN.out]; exact h900) hd (HALL2.out d hdm) (HR.out d hdm) (HF.out d hdm).1 hK hV ha HSY.out hus hrs hb)
          have hbq := hLL.below
          have q0 := (hbq.cell hbl).trans h0
          have q1 := (hbq.cell (p := ⟨(ad.add (k2 * 4)).block, (ad.add (k2 * 4)).off + 1, none⟩) hbl).trans h1
          have q2 := (hbq.cell (p := ⟨(ad.add (k2 * 4)).block, (ad.add (k2 * 4)).off + 2, none⟩) hbl).trans h2
          have q3 := (hbq.cell (p := ⟨(ad.add (k2 * 4)).block, (ad.add (k2 * 4)).off + 3, none⟩) hbl).trans h3
          have r0 := (hbq.cell hbm).trans g0
          have r1 := (hbq.cell (p := ⟨(bd.add (k2 * 4)).block, (bd.add (k2 * 4)).off + 1, none⟩) hbm).trans g1
          have r2 := (hbq.cell (p := ⟨(bd.add (k2 * 4)).block, (bd.add (k2 * 4)).off + 2, none⟩) hbm).trans g2
          have r3 := (hbq.cell (p := ⟨(bd.add (k2 * 4)).block, (bd.add (k2 * 4)).off + 3, none⟩) hbm).trans g3
          clear hLL hd ha hdm h0 h1 h2 h3 g0 g1 g2 g3 hK hV hus hrs hbq
          go_wp2
          go_region_law
            (go_simp; go_at_call 10
             refine (HST.out _ (by first | exact Below.refl _ _ | exact (Below.refl _ _).drew)).mono ?_
             rintro y w5 ⟨A5, c5, ps5, rfl, hL5⟩
             have HL5 := Lib.hid hL5
             clear hL5)
          all_goals
            go_wp2
            exact ⟨⟨k2 + 1, A5, c5, ps5, by omega, by push_cast; rfl, HL5.out⟩, by simp [intOf]; omega⟩
        · have hke2 : k2 = k := by omega
          subst hke2
          have HBQ : Hid (Below w.heap.size w wq) := Lib.hid (up_below' HB2.out HLL.out.below)
          go_wp2_with (go_at_call 6; refine (HG.out _ HBQ.out).mono ?_; rintro e w6 ⟨rfl, hb6⟩)
          go_ret
          exact ⟨rfl, up_below' HBQ.out hb6⟩

theorem lawTp_walk {w : World} (dsc : Bool) (dv : List RDV) (A : Option Addr) (c : Nat) (hl : RDeedsAt w A dv) (hr : ∀ d ∈ dv, DeedRng d) (n : Int) {E : Value} (hE : HasEof w E) :
    Calls Tryd.prog 3 #[.bool dsc, .slice A dv.length c, .int .i64 n] w fun e w' => e = .returned (.bool true) ∧ Below w.heap.size w w' := by
  have hz := zzFits12_any dv A c w hl
  cases h : fits12B dv with
  | false =>
    rw [h] at hz
    exact lawTp_long dsc dv A c n w (Lib.hid hz)
  | true =>
    rw [h] at hz
    by_cases hbad : 900 < dv.length ∨ n < 1 ∨ 3 < n
    · exact lawTp_out dsc dv.length A c n w hbad (Lib.hid hz) (Lib.hid (fun w' hb => grows_any (hE.below hb)))
    · exact lawTp_fits dsc dv A c n w hl hr hE (by omega) (by omega) (by omega) h (Lib.hid hz)

end Go.Proofs.YtffgkocokkhahaaDoor
