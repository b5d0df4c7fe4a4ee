/-
  laws.treeDeed: what it is given, what it hands back; how keys compare there. || laws.treeDeed: clear. PRINTED BY wip/tpl/gen_yrd.py. || laws.treeDeed: len. PRINTED BY wip/tpl/gen_yrd.py. || laws.treeDeed: get. PRINTED BY wip/tpl/gen_yrd.py. || laws.treeDeed: delete. PRINTED BY wip/tpl/gen_yrd.py.
-/
import Derived.Test.YtffgkocokkhahaaDoorTp28
import Derived.Test.YtffgkocokkhahaaDoorTp35
import Derived.Deep.CutRange
import Derived.Deep.RegionLaw
import Derived.BigQuiet
import Derived.StillTailTactics

/- laws.treeDeed: what it is given, what it hands back; how keys compare there. -/
namespace Go.Proofs.YtffgkocokkhahaaDoor
open Go.RowKit

/-- What the law hands to its own list's deed, and what a tree told. -/
structure DeedIn (dsc : Bool) (n : Nat) (st : List PR) (ps : List PairV) (A : Option Addr) (c : Nat) (x : TD) (kA : Option Addr) (kc : Nat) (vA : Option Addr) (vc : Nat) (a : TAV) (w1 w : World) : Prop where
  now : NowL dsc n st ps w1
  row : RowX w w1.heap.size 66 2 (.slice A ps.length c) ps.length (flat PairV.cells ps)
  n1 : 1 ≤ n
  n3 : n ≤ 1000
  len : ps.length ≤ 1000
  fit : TFit n x
  kl : x.K.length ≤ 2147483647
  krng : ∀ (j : Nat) (z : VV), x.K[j]? = some z → Rng z.n z.u z.f
  kAt : LAt w1 kA x.K
  vAt : LAt w1 vA x.V
  says : TSays a (ansT dsc st x)
  us : LAt w1 a.R a.us
  rs : PairsAt w1 a.P a.rs
  below : Below w1.heap.size w1 w

/-- What comes back: the list behind the deed, and that the tree told the truth. -/
def LDeed (dsc : Bool) (n : Nat) (st : List PR) (x : TD) (w1 : World) (y : Ending) (w' : World) : Prop :=
  ∃ A c ps, y = .returned (.tuple #[.slice A ps.length c, .bool true]) ∧ RowX w' w1.heap.size 66 2 (.slice A ps.length c) ps.length (flat PairV.cells ps) ∧ NowL dsc n (nxtT dsc st x) ps w1 ∧ Below w1.heap.size w1 w'

def CmpP (dsc : Bool) (n : Nat) (K : List VV) (r : PairV) (w : World) (e : Ending) (w' : World) : Prop := ∃ c : Int, e = .returned (.int .i64 c) ∧ Told dsc n K r c ∧ Below w.heap.size w w'

section
variable {dsc : Bool} {n : Nat} {st : List PR} {ps : List PairV} {A : Option Addr} {c : Nat} {x : TD} {kA : Option Addr} {kc : Nat} {vA : Option Addr} {vc : Nat} {a : TAV} {w1 w : World}

theorem DeedIn.pairs (h : DeedIn dsc n st ps A c x kA kc vA vc a w1 w) {w' : World} (hb : Below w.heap.size w w') : PairsAt w' A ps :=
  RowP.pairs rfl (h.row.below hb) (fun r hr => ⟨((h.now.at_ r hr).1.below h.below).below hb, ((h.now.at_ r hr).2.below h.below).below hb⟩)

theorem DeedIn.cmp (h : DeedIn dsc n st ps A c x kA kc vA vc a w1 w) (hK : 0 < x.K.length) {r : PairV} (hr : r ∈ ps) {w' : World} (hb : Below w.heap.size w w') :
    Calls Tryd.prog 16 #[.slice r.kA r.k.length r.kc, .slice kA x.K.length kc, .bool dsc] w' (CmpP dsc n x.K r w') := by
  have hkl := h.now.klen hr
  have hn3 := h.n3
  have hn1 := h.n1
  have hA1 := ((h.now.at_ r hr).1.below h.below).below hb
  have hB1 := (h.kAt.below h.below).below hb
  by_cases hcK : x.K.length = n ∧ ConcL x.K
  · exact (rowsKc_any dsc r.k x.K r.kA kA r.kc kc (by omega) (by omega) (h.now.ck r hr) hcK.2 w' hA1 hB1).mono fun _ _ ⟨h1, h2⟩ => ⟨_, h1, fun _ => rfl, h2⟩
  · exact (rowsS_any dsc r.k x.K r.kA kA r.kc kc (by omega) hK (by omega) h.kl (h.now.ck r hr) h.krng w' hA1 hB1).mono fun _ _ ⟨c, h1, h2⟩ => ⟨c, h1, fun h => absurd h hcK, h2⟩
end

theorem there_lt {d : Bool} {K : List VV} {st : List PR} (h : thereP d K st = true) : placeP d K st < st.length := by
  unfold thereP at h
  split at h
  · rename_i x hx
    exact (List.getElem?_eq_some_iff.1 hx).1
  · cases h

theorem RowX.lt {w : World} {B : Nat} {e : TypeId} {s : Nat} {v : Value} {n : Nat} {xs : List Value} (h : RowX w B e s v n xs) {b : Nat} (hb : v.ownBlock = Option.some b) : b < w.heap.size := by
  rcases h.2 with ⟨rfl, _⟩ | ⟨g, cap, cur, rfl, hB, hh, _⟩
  · cases hb
  · obtain rfl : g = b := by simpa [Value.ownBlock] using hb
    exact lt_of_heap hh

/-! ### Parts of a row of pairs -/

def cutA (A : Option Addr) (cap l : Nat) : Option Addr := if cap = l then A else A.map (·.add (l * 2))

theorem run_part {P : Program} {t E : TypeId} (ht : P.underlying t = some (.slice E)) (hs : (P.info? E).map (·.size) = some 2) (A : Option Addr) (n cap l h : Nat) (hl : l ≤ h) (hh : h ≤ cap) (w : World) :
    (Instr.sliceAt t (.slice A n cap) (some (.int .i64 (l : Int))) (some (.int .i64 (h : Int))) none).run P w = .ok (.slice (cutA A cap l) (h - l) (cap - l)) w := by
  have he : P.elem t = E := by simp [Program.elem, ht]
  have h' : P.underlying t = some (.slice (P.elem t)) := by rw [he]; exact ht
  rw [run_sliceAt_slice (h := h'), run_slice_lh (ht := h') (h0 := by omega) (h1 := by omega) (h2 := by omega), he]
  obtain ⟨i, hq, hi⟩ := Option.map_eq_some_iff.1 hs
  have hz : (sizeOf E).run P w = .ok 2 w := by simp [sizeOf, typeInfo, hq, hi]
  rw [hz]
  simp [Result.andThen, sliced, cutA]

theorem run_part0 {P : Program} {t E : TypeId} (ht : P.underlying t = some (.slice E)) (hs : (P.info? E).map (·.size) = some 2) (A : Option Addr) (n cap h : Nat) (hh : h ≤ cap) (w : World) :
    (Instr.sliceAt t (.slice A n cap) none (some (.int .i64 (h : Int))) none).run P w = .ok (.slice A h cap) w := by
  have he : P.elem t = E := by simp [Program.elem, ht]
  have h' : P.underlying t = some (.slice (P.elem t)) := by rw [he]; exact ht
  rw [run_sliceAt_slice (h := h'), run_slice_h (ht := h') (h0 := by omega) (h2 := by omega), he]
  obtain ⟨i, hq, hi⟩ := Option.map_eq_some_iff.1 hs
  have hz : (sizeOf E).run P w = .ok 2 w := by simp [sizeOf, typeInfo, hq, hi]
  rw [hz]
  cases A <;> simp [Result.andThen, sliced, Addr.add]

theorem PairsAt.take {w : World} {A : Option Addr} {ps : List PairV} (h : PairsAt w A ps) (m : Nat) : PairsAt w A (ps.take m) := by
  intro i r hr
  rw [List.getElem?_take] at hr
  split at hr
  · exact h i r hr
  · cases hr

theorem addr_add_add (a : Addr) (i j : Nat) : (a.add i).add j = a.add (i + j) := by
  unfold Addr.add
  by_cases hi : i = 0
  · subst hi
    simp
  · by_cases hj : j = 0
    · subst hj
      simp [hi]
    · simp [hi, hj, Nat.add_assoc]

theorem PairsAt.cut {w : World} {A : Option Addr} {ps : List PairV} (h : PairsAt w A ps) {cap k : Nat} (hc : ps.length ≤ cap) (hk : k ≤ ps.length) (m : Nat) : PairsAt w (cutA A cap k) ((ps.drop k).take m) := by
  refine PairsAt.take ?_ m
  intro i r hr
  rw [List.getElem?_drop] at hr
  have hlt := (List.getElem?_eq_some_iff.1 hr).1
  obtain ⟨⟨ad, rfl, hl, h0, h1⟩, hv⟩ := h (k + i) r hr
  refine ⟨⟨ad.add (k * 2), ?_, ?_, ?_, ?_⟩, hv⟩
  · unfold cutA
    rw [if_neg (by omega)]
    rfl
  all_goals rw [addr_add_add, ← Nat.add_mul]; assumption

theorem RowX.capLe {w : World} {B c : Nat} {e : TypeId} {s : Nat} {A : Option Addr} {n : Nat} {xs : List Value} (h : RowX w B e s (.slice A n c) n xs) : n ≤ c := by
  rcases h.2 with ⟨h1, h2⟩ | ⟨g, cap, cur, h1, _, _, h2, _⟩
  · omega
  · injection h1 with _ _ h1
    omega

end Go.Proofs.YtffgkocokkhahaaDoor

/- laws.treeDeed: clear. PRINTED BY wip/tpl/gen_yrd.py. -/
namespace Go.Proofs.YtffgkocokkhahaaDoor
open Go.RowKit

set_option maxRecDepth 100000 in
set_option maxHeartbeats 3200000 in
theorem ld_clear {dsc : Bool} {n : Nat} {st : List PR} {ps : List PairV} {A : Option Addr} {c : Nat} {K V : List VV} {N : Int} {kA : Option Addr} {kc : Nat} {vA : Option Addr} {vc : Nat} {a : TAV} {w1 w : World} (h : DeedIn dsc n st ps A c ⟨.clear, K, V, N⟩ kA kc vA vc a w1 w) :
    Calls Tryd.prog 10 #[.bool dsc, .slice A ps.length c, .agg #[.string ⟨#[99, 108, 101, 97, 114]⟩, .slice kA K.length kc, .slice vA V.length vc, .int .i64 N], .agg #[.bool a.is, .int .i64 a.n, .slice a.R a.us.length a.c, .slice a.P a.rs.length a.pc]] w (LDeed dsc n st ⟨.clear, K, V, N⟩ w1) := by
  unfold LDeed
  have hlen9 := h.len
  have hfN0 : -1000 ≤ N := h.fit.lo
  have hfN1 : N ≤ 1000 := h.fit.hi
  have hbs := h.below.size
  have HH := Lib.hid h
  obtain ⟨len, hlen⟩ : ∃ len, len = ps.length := ⟨_, rfl⟩
  obtain ⟨kl, hkl⟩ : ∃ kl, kl = K.length := ⟨_, rfl⟩
  obtain ⟨opv, hopv⟩ : ∃ opv : ByteArray, opv = ⟨#[99, 108, 101, 97, 114]⟩ := ⟨_, rfl⟩
  have HN := Lib.hid hlen
  have HKL := Lib.hid hkl
  have HOP := Lib.hid hopv
  rw [← hlen, ← hkl, ← hopv]
  rw [← hlen] at hlen9
  clear h hlen hkl hopv
  go_enter Tryd.func10, Tryd.ntmps10
  go_upto_if 15 with fail
  obtain ⟨W0, hW0⟩ : ∃ W0, W0 = (w.alloc (.cells #[.string opv, .slice kA kl kc, .slice vA V.length vc, .int .i64 N] 27)).alloc (.cells #[.bool a.is, .int .i64 a.n, .slice a.R a.us.length a.c, .slice a.P a.rs.length a.pc] 35) := ⟨_, rfl⟩
  rw [← hW0]
  have HB0 : Hid (Below w.heap.size w W0) := Lib.hid (by rw [hW0]; exact below_al2' w _ _)
  have HD0 : Hid (W0.heap[w.heap.size]? = some (.cells #[.string opv, .slice kA kl kc, .slice vA V.length vc, .int .i64 N] 27 (0, 0))) := Lib.hid (by rw [hW0]; exact (heap_alloc_ne _ _ _ (by simp)).trans (heap_new w _))
  have HA0 : Hid (W0.heap[w.heap.size + 1]? = some (.cells #[.bool a.is, .int .i64 a.n, .slice a.R a.us.length a.c, .slice a.P a.rs.length a.pc] 35 (0, 0))) := Lib.hid (by rw [hW0]; have := heap_new (w.alloc (.cells #[.string opv, .slice kA kl kc, .slice vA V.length vc, .int .i64 N] 27)) (.cells #[.bool a.is, .int .i64 a.n, .slice a.R a.us.length a.c, .slice a.P a.rs.length a.pc] 35); simpa using this)
  clear hW0
  go_cut [10, 11] from 12 to 49 (fun s10 s11 wx => ∃ (k : Nat) (b : Bool), s10 = .int .i64 (k : Int) ∧ s11 = .bool b ∧ Place dsc n st K k b ∧ Below W0.heap.size W0 wx)
  case first =>
    by_cases hK0 : 0 < kl
    · have hd0 : decide (0 < kl) = true := decide_eq_true hK0
      rw [hd0]
      go_wp2
      go_loopw [10] (fun i wr => ∃ k : Nat, k ≤ len ∧ i = .int .i64 (k : Int) ∧ Below W0.heap.size W0 wr ∧ ∀ (j : Nat) (r : PairV), j < k → ps[j]? = some r → ∃ c, Told dsc n K r c ∧ c < 0) (fun i _ => len - (intOf i).toNat)
      case atStart => exact ⟨0, by omega, rfl, Below.refl _ _, fun j r hj => by omega⟩
      case round =>
        obtain ⟨k, hk, rfl, hb, hall⟩ := hrel
        have HALL := Lib.hid hall
        have HB := Lib.hid hb
        have HBW := Lib.hid (up_below' HB0.out hb)
        have d1 := cell_of_heap (heap_below HD0.out hb) 1
        clear hall hb
        by_cases hlt : k < len
        · obtain ⟨r, hr⟩ : ∃ r, ps[k]? = some r := ⟨_, List.getElem?_eq_getElem (by rw [← HN.out]; exact hlt)⟩
          obtain ⟨⟨ad, rfl, hbl, h0, h1⟩, _⟩ := (HH.out.pairs HBW.out) k r hr
          have HR := Lib.hid hr
          have HC := Lib.hid (fun (w' : World) (hb : Below _ _ w') => by have := HH.out.cmp (by show 0 < K.length; rw [← HKL.out]; exact hK0) (List.mem_of_getElem? hr) (up_below' HBW.out hb); rw [← HKL.out] at this; exact this)
          have hd : decide ((k : Int) < (len : Int)) = true := decide_eq_true (by omega)
          clear hr h1
          go_wp2
          go_still_tail 13, (by kernel_rfl)
          change wpList _ _ _ _ _ (_ : World).drew
          go_wp2_with (go_at_call 16
                       refine (HC.out _ (Below.refl _ _).drew).mono ?_
                       rintro e w3 ⟨cc, rfl, ht, hb3⟩
                       have HT := Lib.hid ht
                       have HB3 : Hid (Below wr.heap.size wr w3) := Lib.hid (up_below' (Below.refl _ _).drew hb3)
                       have hbl3 : (ad.add (k * 2)).block < w3.heap.size := Nat.lt_of_lt_of_le hbl HB3.out.size
                       have g0 := (HB3.out.cell hbl).trans h0
                       have d3 := (HB3.out.cell (p := ⟨w.heap.size, 1, none⟩) (lt_of_heap (heap_below HD0.out HB.out))).trans d1
                       have HC3 := Lib.hid (fun (w' : World) (hb : Below w3.heap.size w3 w') => HC.out w' (up_below' HB3.out hb))
                       clear hb3 ht)
          · refine ⟨⟨k + 1, by omega, by push_cast; rfl, up_below' HB.out HB3.out, fun j z hj hz => ?_⟩, by simp [intOf]; omega⟩
            rcases Nat.lt_or_ge j k with h' | h'
            · exact HALL.out j z h' hz
            · obtain rfl : j = k := by omega
              obtain rfl : z = r := Option.some.inj (hz.symm.trans HR.out)
              exact ⟨cc, HT.out, by first | assumption | omega⟩
          · have hcc : 0 ≤ cc := by omega
            go_still_tail 13, (by kernel_rfl)
            change wpList _ _ _ _ _ (_ : World).drew
            go_wp2_with (go_at_call 16
                         refine (HC3.out _ (Below.refl _ _).drew).mono ?_
                         rintro e w4 ⟨c4, rfl, ht4, hb4⟩
                         have HT4 := Lib.hid ht4
                         have HB4 : Hid (Below w3.heap.size w3 w4) := Lib.hid (up_below' (Below.refl _ _).drew hb4)
                         clear hb4 ht4)
            go_meet
            exact ⟨k, c4 == 0, rfl, rfl, Place.here HH.out.now HR.out HALL.out HT.out hcc HT4.out, up_below' (up_below' HB.out HB3.out) HB4.out⟩
        · have hke : k = len := by omega
          subst hke
          have hd : decide ((k : Int) < (k : Int)) = false := decide_eq_false (by omega)
          go_wp2
          go_quiet (fail)
          go_wp2
          go_quiet (fail)
          go_wp2
          go_meet
          exact ⟨k, false, rfl, rfl, Place.end_ HH.out.now (by rw [HN.out]) HALL.out, (by first | exact HB.out | exact below_drewN (below_drewN HB.out _) _ | exact HB.out.drew.drew)⟩
    · have hK1 : kl = 0 := by omega
      subst hK1
      go_wp2
      go_meet
      exact ⟨0, false, rfl, rfl, Place.none HH.out.n1 HKL.out.symm, Below.refl _ _⟩
  case rest =>
    obtain ⟨k, b, rfl, rfl, hpl, hb⟩ := hcut
    have HPL := Lib.hid hpl
    have HBC := Lib.hid (up_below' HB0.out hb)
    have hdh := heap_below HD0.out hb
    have hah := heap_below HA0.out hb
    have ld := lt_of_heap hdh
    have la := lt_of_heap hah
    have d0 := cell_of_heap hdh 0
    have d1 := cell_of_heap hdh 1
    have d2 := cell_of_heap hdh 2
    have d3 := cell_of_heap hdh 3
    have a0 := cell_of_heap hah 0
    have a1 := cell_of_heap hah 1
    have a2 := cell_of_heap hah 2
    have a3 := cell_of_heap hah 3
    have HROW : Hid (RowX wc w1.heap.size 66 2 (.slice A len c) len (flat PairV.cells ps)) := Lib.hid (by have := HH.out.row.below HBC.out; rw [← HN.out] at this; exact this)
    have HB1 : Hid (Below w1.heap.size w1 wc) := Lib.hid (up_below' HH.out.below HBC.out)
    have hopv := HOP.out
    subst hopv
    have HDC := Lib.hid hdh
    clear hpl hb hdh hah HOP
    simp only [List.getElem?_toArray, List.getElem?_cons_zero, List.getElem?_cons_succ] at d0 d1 d2 d3 a0 a1 a2 a3
    go_wp2
    go_ret2
    exact ⟨none, 0, [], rfl, RowX.nil _ _ _ _, NowL.nil _ _ _, HB1.out⟩

end Go.Proofs.YtffgkocokkhahaaDoor

/- laws.treeDeed: len. PRINTED BY wip/tpl/gen_yrd.py. -/
namespace Go.Proofs.YtffgkocokkhahaaDoor
open Go.RowKit

set_option maxRecDepth 100000 in
set_option maxHeartbeats 3200000 in
theorem ld_len {dsc : Bool} {n : Nat} {st : List PR} {ps : List PairV} {A : Option Addr} {c : Nat} {K V : List VV} {N : Int} {kA : Option Addr} {kc : Nat} {vA : Option Addr} {vc : Nat} {a : TAV} {w1 w : World} (h : DeedIn dsc n st ps A c ⟨.len, K, V, N⟩ kA kc vA vc a w1 w) :
    Calls Tryd.prog 10 #[.bool dsc, .slice A ps.length c, .agg #[.string ⟨#[108, 101, 110]⟩, .slice kA K.length kc, .slice vA V.length vc, .int .i64 N], .agg #[.bool a.is, .int .i64 a.n, .slice a.R a.us.length a.c, .slice a.P a.rs.length a.pc]] w (LDeed dsc n st ⟨.len, K, V, N⟩ w1) := by
  unfold LDeed
  have hlen9 := h.len
  have hfN0 : -1000 ≤ N := h.fit.lo
  have hfN1 : N ≤ 1000 := h.fit.hi
  have hbs := h.below.size
  have HH := Lib.hid h
  obtain ⟨len, hlen⟩ : ∃ len, len = ps.length := ⟨_, rfl⟩
  obtain ⟨kl, hkl⟩ : ∃ kl, kl = K.length := ⟨_, rfl⟩
  obtain ⟨opv, hopv⟩ : ∃ opv : ByteArray, opv = ⟨#[108, 101, 110]⟩ := ⟨_, rfl⟩
  have HN := Lib.hid hlen
  have HKL := Lib.hid hkl
  have HOP := Lib.hid hopv
  rw [← hlen, ← hkl, ← hopv]
  rw [← hlen] at hlen9
  clear h hlen hkl hopv
  go_enter Tryd.func10, Tryd.ntmps10
  go_upto_if 15 with fail
  obtain ⟨W0, hW0⟩ : ∃ W0, W0 = (w.alloc (.cells #[.string opv, .slice kA kl kc, .slice vA V.length vc, .int .i64 N] 27)).alloc (.cells #[.bool a.is, .int .i64 a.n, .slice a.R a.us.length a.c, .slice a.P a.rs.length a.pc] 35) := ⟨_, rfl⟩
  rw [← hW0]
  have HB0 : Hid (Below w.heap.size w W0) := Lib.hid (by rw [hW0]; exact below_al2' w _ _)
  have HD0 : Hid (W0.heap[w.heap.size]? = some (.cells #[.string opv, .slice kA kl kc, .slice vA V.length vc, .int .i64 N] 27 (0, 0))) := Lib.hid (by rw [hW0]; exact (heap_alloc_ne _ _ _ (by simp)).trans (heap_new w _))
  have HA0 : Hid (W0.heap[w.heap.size + 1]? = some (.cells #[.bool a.is, .int .i64 a.n, .slice a.R a.us.length a.c, .slice a.P a.rs.length a.pc] 35 (0, 0))) := Lib.hid (by rw [hW0]; have := heap_new (w.alloc (.cells #[.string opv, .slice kA kl kc, .slice vA V.length vc, .int .i64 N] 27)) (.cells #[.bool a.is, .int .i64 a.n, .slice a.R a.us.length a.c, .slice a.P a.rs.length a.pc] 35); simpa using this)
  clear hW0
  go_cut [10, 11] from 12 to 49 (fun s10 s11 wx => ∃ (k : Nat) (b : Bool), s10 = .int .i64 (k : Int) ∧ s11 = .bool b ∧ Place dsc n st K k b ∧ Below W0.heap.size W0 wx)
  case first =>
    by_cases hK0 : 0 < kl
    · have hd0 : decide (0 < kl) = true := decide_eq_true hK0
      rw [hd0]
      go_wp2
      go_loopw [10] (fun i wr => ∃ k : Nat, k ≤ len ∧ i = .int .i64 (k : Int) ∧ Below W0.heap.size W0 wr ∧ ∀ (j : Nat) (r : PairV), j < k → ps[j]? = some r → ∃ c, Told dsc n K r c ∧ c < 0) (fun i _ => len - (intOf i).toNat)
      case atStart => exact ⟨0, by omega, rfl, Below.refl _ _, fun j r hj => by omega⟩
      case round =>
        obtain ⟨k, hk, rfl, hb, hall⟩ := hrel
        have HALL := Lib.hid hall
        have HB := Lib.hid hb
        have HBW := Lib.hid (up_below' HB0.out hb)
        have d1 := cell_of_heap (heap_below HD0.out hb) 1
        clear hall hb
        by_cases hlt : k < len
        · obtain ⟨r, hr⟩ : ∃ r, ps[k]? = some r := ⟨_, List.getElem?_eq_getElem (by rw [← HN.out]; exact hlt)⟩
          obtain ⟨⟨ad, rfl, hbl, h0, h1⟩, _⟩ := (HH.out.pairs HBW.out) k r hr
          have HR := Lib.hid hr
          have HC := Lib.hid (fun (w' : World) (hb : Below _ _ w') => by have := HH.out.cmp (by show 0 < K.length; rw [← HKL.out]; exact hK0) (List.mem_of_getElem? hr) (up_below' HBW.out hb); rw [← HKL.out] at this; exact this)
          have hd : decide ((k : Int) < (len : Int)) = true := decide_eq_true (by omega)
          clear hr h1
          go_wp2
          go_still_tail 13, (by kernel_rfl)
          change wpList _ _ _ _ _ (_ : World).drew
          go_wp2_with (go_at_call 16
                       refine (HC.out _ (Below.refl _ _).drew).mono ?_
                       rintro e w3 ⟨cc, rfl, ht, hb3⟩
                       have HT := Lib.hid ht
                       have HB3 : Hid (Below wr.heap.size wr w3) := Lib.hid (up_below' (Below.refl _ _).drew hb3)
                       have hbl3 : (ad.add (k * 2)).block < w3.heap.size := Nat.lt_of_lt_of_le hbl HB3.out.size
                       have g0 := (HB3.out.cell hbl).trans h0
                       have d3 := (HB3.out.cell (p := ⟨w.heap.size, 1, none⟩) (lt_of_heap (heap_below HD0.out HB.out))).trans d1
                       have HC3 := Lib.hid (fun (w' : World) (hb : Below w3.heap.size w3 w') => HC.out w' (up_below' HB3.out hb))
                       clear hb3 ht)
          · refine ⟨⟨k + 1, by omega, by push_cast; rfl, up_below' HB.out HB3.out, fun j z hj hz => ?_⟩, by simp [intOf]; omega⟩
            rcases Nat.lt_or_ge j k with h' | h'
            · exact HALL.out j z h' hz
            · obtain rfl : j = k := by omega
              obtain rfl : z = r := Option.some.inj (hz.symm.trans HR.out)
              exact ⟨cc, HT.out, by first | assumption | omega⟩
          · have hcc : 0 ≤ cc := by omega
            go_still_tail 13, (by kernel_rfl)
            change wpList _ _ _ _ _ (_ : World).drew
            go_wp2_with (go_at_call 16
                         refine (HC3.out _ (Below.refl _ _).drew).mono ?_
                         rintro e w4 ⟨c4, rfl, ht4, hb4⟩
                         have HT4 := Lib.hid ht4
                         have HB4 : Hid (Below w3.heap.size w3 w4) := Lib.hid (up_below' (Below.refl _ _).drew hb4)
                         clear hb4 ht4)
            go_meet
            exact ⟨k, c4 == 0, rfl, rfl, Place.here HH.out.now HR.out HALL.out HT.out hcc HT4.out, up_below' (up_below' HB.out HB3.out) HB4.out⟩
        · have hke : k = len := by omega
          subst hke
          have hd : decide ((k : Int) < (k : Int)) = false := decide_eq_false (by omega)
          go_wp2
          go_quiet (fail)
          go_wp2
          go_quiet (fail)
          go_wp2
          go_meet
          exact ⟨k, false, rfl, rfl, Place.end_ HH.out.now (by rw [HN.out]) HALL.out, (by first | exact HB.out | exact below_drewN (below_drewN HB.out _) _ | exact HB.out.drew.drew)⟩
    · have hK1 : kl = 0 := by omega
      subst hK1
      go_wp2
      go_meet
      exact ⟨0, false, rfl, rfl, Place.none HH.out.n1 HKL.out.symm, Below.refl _ _⟩
  case rest =>
    obtain ⟨k, b, rfl, rfl, hpl, hb⟩ := hcut
    have HPL := Lib.hid hpl
    have HBC := Lib.hid (up_below' HB0.out hb)
    have hdh := heap_below HD0.out hb
    have hah := heap_below HA0.out hb
    have ld := lt_of_heap hdh
    have la := lt_of_heap hah
    have d0 := cell_of_heap hdh 0
    have d1 := cell_of_heap hdh 1
    have d2 := cell_of_heap hdh 2
    have d3 := cell_of_heap hdh 3
    have a0 := cell_of_heap hah 0
    have a1 := cell_of_heap hah 1
    have a2 := cell_of_heap hah 2
    have a3 := cell_of_heap hah 3
    have HROW : Hid (RowX wc w1.heap.size 66 2 (.slice A len c) len (flat PairV.cells ps)) := Lib.hid (by have := HH.out.row.below HBC.out; rw [← HN.out] at this; exact this)
    have HB1 : Hid (Below w1.heap.size w1 wc) := Lib.hid (up_below' HH.out.below HBC.out)
    have hopv := HOP.out
    subst hopv
    have HDC := Lib.hid hdh
    clear hpl hb hdh hah HOP
    simp only [List.getElem?_toArray, List.getElem?_cons_zero, List.getElem?_cons_succ] at d0 d1 d2 d3 a0 a1 a2 a3
    have hn := HH.out.says.n st.length rfl
    rw [← HH.out.now.len, ← HN.out] at hn
    rw [hn] at a1
    go_wp2
    go_quiet (fail)
    go_wp2
    go_ret2
    exact ⟨A, c, ps, (by first | (rw [← HN.out]; rfl) | rw [← HN.out]), by rw [← HN.out]; exact (by first | exact HROW.out | exact HROW.out.below (below_drewN (Below.refl _ _) _) | exact HROW.out.below (Below.refl _ _).drew), HH.out.now.same rfl, (by first | exact HB1.out | exact below_drewN HB1.out _ | exact HB1.out.drew)⟩

end Go.Proofs.YtffgkocokkhahaaDoor

/- laws.treeDeed: get. PRINTED BY wip/tpl/gen_yrd.py. -/
namespace Go.Proofs.YtffgkocokkhahaaDoor
open Go.RowKit

set_option maxRecDepth 100000 in
set_option maxHeartbeats 3200000 in
theorem ld_get {dsc : Bool} {n : Nat} {st : List PR} {ps : List PairV} {A : Option Addr} {c : Nat} {K V : List VV} {N : Int} {kA : Option Addr} {kc : Nat} {vA : Option Addr} {vc : Nat} {a : TAV} {w1 w : World} (h : DeedIn dsc n st ps A c ⟨.get, K, V, N⟩ kA kc vA vc a w1 w) :
    Calls Tryd.prog 10 #[.bool dsc, .slice A ps.length c, .agg #[.string ⟨#[103, 101, 116]⟩, .slice kA K.length kc, .slice vA V.length vc, .int .i64 N], .agg #[.bool a.is, .int .i64 a.n, .slice a.R a.us.length a.c, .slice a.P a.rs.length a.pc]] w (LDeed dsc n st ⟨.get, K, V, N⟩ w1) := by
  unfold LDeed
  have hlen9 := h.len
  have hfN0 : -1000 ≤ N := h.fit.lo
  have hfN1 : N ≤ 1000 := h.fit.hi
  have hbs := h.below.size
  have HH := Lib.hid h
  obtain ⟨len, hlen⟩ : ∃ len, len = ps.length := ⟨_, rfl⟩
  obtain ⟨kl, hkl⟩ : ∃ kl, kl = K.length := ⟨_, rfl⟩
  obtain ⟨opv, hopv⟩ : ∃ opv : ByteArray, opv = ⟨#[103, 101, 116]⟩ := ⟨_, rfl⟩
  have HN := Lib.hid hlen
  have HKL := Lib.hid hkl
  have HOP := Lib.hid hopv
  rw [← hlen, ← hkl, ← hopv]
  rw [← hlen] at hlen9
  clear h hlen hkl hopv
  go_enter Tryd.func10, Tryd.ntmps10
  go_upto_if 15 with fail
  obtain ⟨W0, hW0⟩ : ∃ W0, W0 = (w.alloc (.cells #[.string opv, .slice kA kl kc, .slice vA V.length vc, .int .i64 N] 27)).alloc (.cells #[.bool a.is, .int .i64 a.n, .slice a.R a.us.length a.c, .slice a.P a.rs.length a.pc] 35) := ⟨_, rfl⟩
  rw [← hW0]
  have HB0 : Hid (Below w.heap.size w W0) := Lib.hid (by rw [hW0]; exact below_al2' w _ _)
  have HD0 : Hid (W0.heap[w.heap.size]? = some (.cells #[.string opv, .slice kA kl kc, .slice vA V.length vc, .int .i64 N] 27 (0, 0))) := Lib.hid (by rw [hW0]; exact (heap_alloc_ne _ _ _ (by simp)).trans (heap_new w _))
  have HA0 : Hid (W0.heap[w.heap.size + 1]? = some (.cells #[.bool a.is, .int .i64 a.n, .slice a.R a.us.length a.c, .slice a.P a.rs.length a.pc] 35 (0, 0))) := Lib.hid (by rw [hW0]; have := heap_new (w.alloc (.cells #[.string opv, .slice kA kl kc, .slice vA V.length vc, .int .i64 N] 27)) (.cells #[.bool a.is, .int .i64 a.n, .slice a.R a.us.length a.c, .slice a.P a.rs.length a.pc] 35); simpa using this)
  clear hW0
  go_cut [10, 11] from 12 to 49 (fun s10 s11 wx => ∃ (k : Nat) (b : Bool), s10 = .int .i64 (k : Int) ∧ s11 = .bool b ∧ Place dsc n st K k b ∧ Below W0.heap.size W0 wx)
  case first =>
    by_cases hK0 : 0 < kl
    · have hd0 : decide (0 < kl) = true := decide_eq_true hK0
      rw [hd0]
      go_wp2
      go_loopw [10] (fun i wr => ∃ k : Nat, k ≤ len ∧ i = .int .i64 (k : Int) ∧ Below W0.heap.size W0 wr ∧ ∀ (j : Nat) (r : PairV), j < k → ps[j]? = some r → ∃ c, Told dsc n K r c ∧ c < 0) (fun i _ => len - (intOf i).toNat)
      case atStart => exact ⟨0, by omega, rfl, Below.refl _ _, fun j r hj => by omega⟩
      case round =>
        obtain ⟨k, hk, rfl, hb, hall⟩ := hrel
        have HALL := Lib.hid hall
        have HB := Lib.hid hb
        have HBW := Lib.hid (up_below' HB0.out hb)
        have d1 := cell_of_heap (heap_below HD0.out hb) 1
        clear hall hb
        by_cases hlt : k < len
        · obtain ⟨r, hr⟩ : ∃ r, ps[k]? = some r := ⟨_, List.getElem?_eq_getElem (by rw [← HN.out]; exact hlt)⟩
          obtain ⟨⟨ad, rfl, hbl, h0, h1⟩, _⟩ := (HH.out.pairs HBW.out) k r hr
          have HR := Lib.hid hr
          have HC := Lib.hid (fun (w' : World) (hb : Below _ _ w') => by have := HH.out.cmp (by show 0 < K.length; rw [← HKL.out]; exact hK0) (List.mem_of_getElem? hr) (up_below' HBW.out hb); rw [← HKL.out] at this; exact this)
          have hd : decide ((k : Int) < (len : Int)) = true := decide_eq_true (by omega)
          clear hr h1
          go_wp2
          go_still_tail 13, (by kernel_rfl)
          change wpList _ _ _ _ _ (_ : World).drew
          go_wp2_with (go_at_call 16
                       refine (HC.out _ (Below.refl _ _).drew).mono ?_
                       rintro e w3 ⟨cc, rfl, ht, hb3⟩
                       have HT := Lib.hid ht
                       have HB3 : Hid (Below wr.heap.size wr w3) := Lib.hid (up_below' (Below.refl _ _).drew hb3)
                       have hbl3 : (ad.add (k * 2)).block < w3.heap.size := Nat.lt_of_lt_of_le hbl HB3.out.size
                       have g0 := (HB3.out.cell hbl).trans h0
                       have d3 := (HB3.out.cell (p := ⟨w.heap.size, 1, none⟩) (lt_of_heap (heap_below HD0.out HB.out))).trans d1
                       have HC3 := Lib.hid (fun (w' : World) (hb : Below w3.heap.size w3 w') => HC.out w' (up_below' HB3.out hb))
                       clear hb3 ht)
          · refine ⟨⟨k + 1, by omega, by push_cast; rfl, up_below' HB.out HB3.out, fun j z hj hz => ?_⟩, by simp [intOf]; omega⟩
            rcases Nat.lt_or_ge j k with h' | h'
            · exact HALL.out j z h' hz
            · obtain rfl : j = k := by omega
              obtain rfl : z = r := Option.some.inj (hz.symm.trans HR.out)
              exact ⟨cc, HT.out, by first | assumption | omega⟩
          · have hcc : 0 ≤ cc := by omega
            go_still_tail 13, (by kernel_rfl)
            change wpList _ _ _ _ _ (_ : World).drew
            go_wp2_with (go_at_call 16
                         refine (HC3.out _ (Below.refl _ _).drew).mono ?_
                         rintro e w4 ⟨c4, rfl, ht4, hb4⟩
                         have HT4 := Lib.hid ht4
                         have HB4 : Hid (Below w3.heap.size w3 w4) := Lib.hid (up_below' (Below.refl _ _).drew hb4)
                         clear hb4 ht4)
            go_meet
            exact ⟨k, c4 == 0, rfl, rfl, Place.here HH.out.now HR.out HALL.out HT.out hcc HT4.out, up_below' (up_below' HB.out HB3.out) HB4.out⟩
        · have hke : k = len := by omega
          subst hke
          have hd : decide ((k : Int) < (k : Int)) = false := decide_eq_false (by omega)
          go_wp2
          go_quiet (fail)
          go_wp2
          go_quiet (fail)
          go_wp2
          go_meet
          exact ⟨k, false, rfl, rfl, Place.end_ HH.out.now (by rw [HN.out]) HALL.out, (by first | exact HB.out | exact below_drewN (below_drewN HB.out _) _ | exact HB.out.drew.drew)⟩
    · have hK1 : kl = 0 := by omega
      subst hK1
      go_wp2
      go_meet
      exact ⟨0, false, rfl, rfl, Place.none HH.out.n1 HKL.out.symm, Below.refl _ _⟩
  case rest =>
    obtain ⟨k, b, rfl, rfl, hpl, hb⟩ := hcut
    have HPL := Lib.hid hpl
    have HBC := Lib.hid (up_below' HB0.out hb)
    have hdh := heap_below HD0.out hb
    have hah := heap_below HA0.out hb
    have ld := lt_of_heap hdh
    have la := lt_of_heap hah
    have d0 := cell_of_heap hdh 0
    have d1 := cell_of_heap hdh 1
    have d2 := cell_of_heap hdh 2
    have d3 := cell_of_heap hdh 3
    have a0 := cell_of_heap hah 0
    have a1 := cell_of_heap hah 1
    have a2 := cell_of_heap hah 2
    have a3 := cell_of_heap hah 3
    have HROW : Hid (RowX wc w1.heap.size 66 2 (.slice A len c) len (flat PairV.cells ps)) := Lib.hid (by have := HH.out.row.below HBC.out; rw [← HN.out] at this; exact this)
    have HB1 : Hid (Below w1.heap.size w1 wc) := Lib.hid (up_below' HH.out.below HBC.out)
    have hopv := HOP.out
    subst hopv
    have HDC := Lib.hid hdh
    clear hpl hb hdh hah HOP
    simp only [List.getElem?_toArray, List.getElem?_cons_zero, List.getElem?_cons_succ] at d0 d1 d2 d3 a0 a1 a2 a3
    have hkp : k = placeP dsc K st ∧ b = thereP dsc K st := HPL.out.2 (HH.out.fit.key (by simp))
    obtain ⟨hk, hbt⟩ := hkp
    have his := HH.out.says.is (thereP dsc K st) rfl
    rw [← hbt] at his
    rw [his] at a0
    cases b with
    | false =>
      clear hk hbt his
      go_wp2
      go_quiet (fail)
      go_wp2
      go_ret2
      exact ⟨A, c, ps, (by first | (rw [← HN.out]; rfl) | rw [← HN.out]), by rw [← HN.out]; exact (by first | exact HROW.out | exact HROW.out.below (below_drewN (Below.refl _ _) _) | exact HROW.out.below (Below.refl _ _).drew), HH.out.now.same rfl, (by first | exact HB1.out | exact below_drewN HB1.out _ | exact HB1.out.drew)⟩
    | true =>
      have hkl : k < len := by rw [HN.out, HH.out.now.len, hk]; exact there_lt hbt.symm
      obtain ⟨r, hr⟩ : ∃ r, ps[k]? = some r := ⟨_, List.getElem?_eq_getElem (by rw [← HN.out]; exact hkl)⟩
      have hrm := List.mem_of_getElem? hr
      have hpa := HH.out.pairs HBC.out
      have hus := (HH.out.us.below HB1.out)
      have hout := HH.out.says.v r.v (by show (if thereP dsc K st = true then (st[placeP dsc K st]?).map PR.v else none) = some r.v; rw [← hbt, if_pos rfl, ← hk, HH.out.now.get hr]; rfl)
      obtain ⟨⟨ad, rfl, hbl, _, h1⟩, _, hrv⟩ := hpa k r hr
      have HC : Hid (∀ z : BW wc, Calls Tryd.prog 19 #[.slice a.R a.us.length a.c, .slice r.vA r.v.length r.vc] z.w fun e w'' => e = .returned (.bool true) ∧ Below z.w.heap.size z.w w'') :=
        Lib.hid (fun z => sameRow_true a.us r.v a.R r.vA a.c r.vc z.w (hus.below z.h) (hrv.below z.h) (hout.same (HH.out.now.cv r hrm)) (by have := HH.out.now.lv r hrm; have := hout.1; omega))
      have p0 : ∀ q : BW wc, q.w.cell? ⟨w.heap.size + 1, 0, none⟩ = some (.bool true) := fun q => (q.h.cell (p := ⟨w.heap.size + 1, 0, none⟩) la).trans a0
      have p2 : ∀ q : BW wc, q.w.cell? ⟨w.heap.size + 1, 2, none⟩ = some (.slice a.R a.us.length a.c) := fun q => (q.h.cell (p := ⟨w.heap.size + 1, 2, none⟩) la).trans a2
      have p3 : ∀ q : BW wc, q.w.cell? ⟨(ad.add (k * 2)).block, (ad.add (k * 2)).off + 1, none⟩ = some (.slice r.vA r.v.length r.vc) := fun q => (q.h.cell (by exact hbl)).trans h1
      have HA0 := Lib.hid a0
      clear hr hrm hpa hus hout hrv h1 a0 a1 a2 a3 hk hbt his
      go_wp2
      refine wp_region_bw (by kernel_rfl) (by kernel_rfl) ?_
      repeat (go_big_quiet_step ((go_at_call 19; exact bw_of (HC.out _))))
      refine wpQuiet_nil ?_
      intro _ hw'
      obtain ⟨pq, hw''⟩ := hw'
      subst hw''
      go_wp2
      go_ret2
      exact ⟨_, c, ps, (by first | (rw [← HN.out]; rfl) | rw [← HN.out]), by rw [← HN.out]; exact HROW.out.below pq.h, HH.out.now.same rfl, up_below' HB1.out pq.h⟩

end Go.Proofs.YtffgkocokkhahaaDoor

/- laws.treeDeed: delete. PRINTED BY wip/tpl/gen_yrd.py. -/
namespace Go.Proofs.YtffgkocokkhahaaDoor
open Go.RowKit

set_option maxRecDepth 100000 in
set_option maxHeartbeats 3200000 in
theorem ld_delete {dsc : Bool} {n : Nat} {st : List PR} {ps : List PairV} {A : Option Addr} {c : Nat} {K V : List VV} {N : Int} {kA : Option Addr} {kc : Nat} {vA : Option Addr} {vc : Nat} {a : TAV} {w1 w : World} (h : DeedIn dsc n st ps A c ⟨.delete, K, V, N⟩ kA kc vA vc a w1 w) :
    Calls Tryd.prog 10 #[.bool dsc, .slice A ps.length c, .agg #[.string ⟨#[100, 101, 108, 101, 116, 101]⟩, .slice kA K.length kc, .slice vA V.length vc, .int .i64 N], .agg #[.bool a.is, .int .i64 a.n, .slice a.R a.us.length a.c, .slice a.P a.rs.length a.pc]] w (LDeed dsc n st ⟨.delete, K, V, N⟩ w1) := by
  unfold LDeed
  have hlen9 := h.len
  have hfN0 : -1000 ≤ N := h.fit.lo
  have hfN1 : N ≤ 1000 := h.fit.hi
  have hbs := h.below.size
  have HH := Lib.hid h
  obtain ⟨len, hlen⟩ : ∃ len, len = ps.length := ⟨_, rfl⟩
  obtain ⟨kl, hkl⟩ : ∃ kl, kl = K.length := ⟨_, rfl⟩
  obtain ⟨opv, hopv⟩ : ∃ opv : ByteArray, opv = ⟨#[100, 101, 108, 101, 116, 101]⟩ := ⟨_, rfl⟩
  have HN := Lib.hid hlen
  have HKL := Lib.hid hkl
  have HOP := Lib.hid hopv
  rw [← hlen, ← hkl, ← hopv]
  rw [← hlen] at hlen9
  clear h hlen hkl hopv
  go_enter Tryd.func10, Tryd.ntmps10
  go_upto_if 15 with fail
  obtain ⟨W0, hW0⟩ : ∃ W0, W0 = (w.alloc (.cells #[.string opv, .slice kA kl kc, .slice vA V.length vc, .int .i64 N] 27)).alloc (.cells #[.bool a.is, .int .i64 a.n, .slice a.R a.us.length a.c, .slice a.P a.rs.length a.pc] 35) := ⟨_, rfl⟩
  rw [← hW0]
  have HB0 : Hid (Below w.heap.size w W0) := Lib.hid (by rw [hW0]; exact below_al2' w _ _)
  have HD0 : Hid (W0.heap[w.heap.size]? = some (.cells #[.string opv, .slice kA kl kc, .slice vA V.length vc, .int .i64 N] 27 (0, 0))) := Lib.hid (by rw [hW0]; exact (heap_alloc_ne _ _ _ (by simp)).trans (heap_new w _))
  have HA0 : Hid (W0.heap[w.heap.size + 1]? = some (.cells #[.bool a.is, .int .i64 a.n, .slice a.R a.us.length a.c, .slice a.P a.rs.length a.pc] 35 (0, 0))) := Lib.hid (by rw [hW0]; have := heap_new (w.alloc (.cells #[.string opv, .slice kA kl kc, .slice vA V.length vc, .int .i64 N] 27)) (.cells #[.bool a.is, .int .i64 a.n, .slice a.R a.us.length a.c, .slice a.P a.rs.length a.pc] 35); simpa using this)
  clear hW0
  go_cut [10, 11] from 12 to 49 (fun s10 s11 wx => ∃ (k : Nat) (b : Bool), s10 = .int .i64 (k : Int) ∧ s11 = .bool b ∧ Place dsc n st K k b ∧ Below W0.heap.size W0 wx)
  case first =>
    by_cases hK0 : 0 < kl
    · have hd0 : decide (0 < kl) = true := decide_eq_true hK0
      rw [hd0]
      go_wp2
      go_loopw [10] (fun i wr => ∃ k : Nat, k ≤ len ∧ i = .int .i64 (k : Int) ∧ Below W0.heap.size W0 wr ∧ ∀ (j : Nat) (r : PairV), j < k → ps[j]? = some r → ∃ c, Told dsc n K r c ∧ c < 0) (fun i _ => len - (intOf i).toNat)
      case atStart => exact ⟨0, by omega, rfl, Below.refl _ _, fun j r hj => by omega⟩
      case round =>
        obtain ⟨k, hk, rfl, hb, hall⟩ := hrel
        have HALL := Lib.hid hall
        have HB := Lib.hid hb
        have HBW := Lib.hid (up_below' HB0.out hb)
        have d1 := cell_of_heap (heap_below HD0.out hb) 1
        clear hall hb
        by_cases hlt : k < len
        · obtain ⟨r, hr⟩ : ∃ r, ps[k]? = some r := ⟨_, List.getElem?_eq_getElem (by rw [← HN.out]; exact hlt)⟩
          obtain ⟨⟨ad, rfl, hbl, h0, h1⟩, _⟩ := (HH.out.pairs HBW.out) k r hr
          have HR := Lib.hid hr
          have HC := Lib.hid (fun (w' : World) (hb : Below _ _ w') => by have := HH.out.cmp (by show 0 < K.length; rw [← HKL.out]; exact hK0) (List.mem_of_getElem? hr) (up_below' HBW.out hb); rw [← HKL.out] at this; exact this)
          have hd : decide ((k : Int) < (len : Int)) = true := decide_eq_true (by omega)
          clear hr h1
          go_wp2
          go_still_tail 13, (by kernel_rfl)
          change wpList _ _ _ _ _ (_ : World).drew
          go_wp2_with (go_at_call 16
                       refine (HC.out _ (Below.refl _ _).drew).mono ?_
                       rintro e w3 ⟨cc, rfl, ht, hb3⟩
                       have HT := Lib.hid ht
                       have HB3 : Hid (Below wr.heap.size wr w3) := Lib.hid (up_below' (Below.refl _ _).drew hb3)
                       have hbl3 : (ad.add (k * 2)).block < w3.heap.size := Nat.lt_of_lt_of_le hbl HB3.out.size
                       have g0 := (HB3.out.cell hbl).trans h0
                       have d3 := (HB3.out.cell (p := ⟨w.heap.size, 1, none⟩) (lt_of_heap (heap_below HD0.out HB.out))).trans d1
                       have HC3 := Lib.hid (fun (w' : World) (hb : Below w3.heap.size w3 w') => HC.out w' (up_below' HB3.out hb))
                       clear hb3 ht)
          · refine ⟨⟨k + 1, by omega, by push_cast; rfl, up_below' HB.out HB3.out, fun j z hj hz => ?_⟩, by simp [intOf]; omega⟩
            rcases Nat.lt_or_ge j k with h' | h'
            · exact HALL.out j z h' hz
            · obtain rfl : j = k := by omega
              obtain rfl : z = r := Option.some.inj (hz.symm.trans HR.out)
              exact ⟨cc, HT.out, by first | assumption | omega⟩
          · have hcc : 0 ≤ cc := by omega
            go_still_tail 13, (by kernel_rfl)
            change wpList _ _ _ _ _ (_ : World).drew
            go_wp2_with (go_at_call 16
                         refine (HC3.out _ (Below.refl _ _).drew).mono ?_
                         rintro e w4 ⟨c4, rfl, ht4, hb4⟩
                         have HT4 := Lib.hid ht4
                         have HB4 : Hid (Below w3.heap.size w3 w4) := Lib.hid (up_below' (Below.refl _ _).drew hb4)
                         clear hb4 ht4)
            go_meet
            exact ⟨k, c4 == 0, rfl, rfl, Place.here HH.out.now HR.out HALL.out HT.out hcc HT4.out, up_below' (up_below' HB.out HB3.out) HB4.out⟩
        · have hke : k = len := by omega
          subst hke
          have hd : decide ((k : Int) < (k : Int)) = false := decide_eq_false (by omega)
          go_wp2
          go_quiet (fail)
          go_wp2
          go_quiet (fail)
          go_wp2
          go_meet
          exact ⟨k, false, rfl, rfl, Place.end_ HH.out.now (by rw [HN.out]) HALL.out, (by first | exact HB.out | exact below_drewN (below_drewN HB.out _) _ | exact HB.out.drew.drew)⟩
    · have hK1 : kl = 0 := by omega
      subst hK1
      go_wp2
      go_meet
      exact ⟨0, false, rfl, rfl, Place.none HH.out.n1 HKL.out.symm, Below.refl _ _⟩
  case rest =>
    obtain ⟨k, b, rfl, rfl, hpl, hb⟩ := hcut
    have HPL := Lib.hid hpl
    have HBC := Lib.hid (up_below' HB0.out hb)
    have hdh := heap_below HD0.out hb
    have hah := heap_below HA0.out hb
    have ld := lt_of_heap hdh
    have la := lt_of_heap hah
    have d0 := cell_of_heap hdh 0
    have d1 := cell_of_heap hdh 1
    have d2 := cell_of_heap hdh 2
    have d3 := cell_of_heap hdh 3
    have a0 := cell_of_heap hah 0
    have a1 := cell_of_heap hah 1
    have a2 := cell_of_heap hah 2
    have a3 := cell_of_heap hah 3
    have HROW : Hid (RowX wc w1.heap.size 66 2 (.slice A len c) len (flat PairV.cells ps)) := Lib.hid (by have := HH.out.row.below HBC.out; rw [← HN.out] at this; exact this)
    have HB1 : Hid (Below w1.heap.size w1 wc) := Lib.hid (up_below' HH.out.below HBC.out)
    have hopv := HOP.out
    subst hopv
    have HDC := Lib.hid hdh
    clear hpl hb hdh hah HOP
    simp only [List.getElem?_toArray, List.getElem?_cons_zero, List.getElem?_cons_succ] at d0 d1 d2 d3 a0 a1 a2 a3
    have hkp : k = placeP dsc K st ∧ b = thereP dsc K st := HPL.out.2 (HH.out.fit.key (by simp))
    obtain ⟨hk, hbt⟩ := hkp
    have his := HH.out.says.is (thereP dsc K st) rfl
    rw [← hbt] at his
    rw [his] at a0
    cases b with
    | false =>
      have hnx : nxtT dsc st ⟨.delete, K, V, N⟩ = st := by unfold nxtT; simp only; rw [← hbt]; rfl
      clear hk hbt his
      go_wp2
      go_quiet (fail)
      go_wp2
      go_ret2
      exact ⟨A, c, ps, (by first | (rw [← HN.out]; rfl) | rw [← HN.out]), by rw [← HN.out]; exact (by first | exact HROW.out | exact HROW.out.below (below_drewN (Below.refl _ _) _) | exact HROW.out.below (Below.refl _ _).drew), HH.out.now.same hnx, (by first | exact HB1.out | exact below_drewN HB1.out _ | exact HB1.out.drew)⟩
    | true =>
      have hkl : k < len := by rw [HN.out, HH.out.now.len, hk]; exact there_lt hbt.symm
      have HER := Lib.hid (HH.out.now.erase (V := V) (N := N) (HH.out.fit.key (by simp)).1 hbt.symm hk)
      obtain ⟨i0, hi, hz0, hz1, hz2⟩ := info_parts info_pair
      obtain ⟨g, cap, cur, hv, hge, hgh, hnc, hcm, hsz, htk⟩ := HROW.out.open_ (by omega)
      injection hv with hv1 _ hv2
      subst hv1
      subst hv2
      have hgw : g < w.heap.size := HH.out.row.lt rfl
      obtain ⟨q1, hq1⟩ : ∃ q1 : Nat, q1 = k + 1 := ⟨_, rfl⟩
      have hs1 : (k : Int) + 1 = (q1 : Int) := by omega
      have hs2 : IntKind.i64.wrap (q1 : Int) = (q1 : Int) := IntWalk.i64_in _ (by omega)
      have hcut1 := fun W => run_cap_at (P := Tryd.prog) Tryd.underlying31 spair g len c k (by omega) W
      have hcut2 := fun W => run_from (P := Tryd.prog) Tryd.underlying31 spair g len c q1 (by omega) W
      have HQ1 := Lib.hid hq1
      have HGH := Lib.hid hgh
      have HTK := Lib.hid htk
      have HFL : Hid (∀ (j : Nat) (v : Value), (flat PairV.cells (ps.drop q1))[j]? = some v → cur[q1 * 2 + j]? = some v) := Lib.hid (fun j v h => by
        have h1 : (flat PairV.cells ps)[q1 * 2 + j]? = some v := by
          rw [← flat_drop PairV.cells 2 PairV.two, List.getElem?_drop] at h
          exact h
        have h2 := (List.getElem?_eq_some_iff.1 h1).1
        rw [← Array.getElem?_toList, cur_split HTK.out, List.getElem?_append_left h2]
        exact h1)
      have HRT := Lib.hid (row_take (k := k) HN.out.symm HROW.out (by omega) (by omega))
      have hsB : w1.heap.size ≤ wc.heap.size := HB1.out.size
      clear hgh htk hsz hq1 a1 a2 a3 d1 d2 d3 hk hbt his hcm
      go_wp2
      go_still_tail 8, (by kernel_rfl)
      change wpList _ _ _ _ _ (wc.drew)
      refine wpList_append_x _ rfl (.tmp 110) (.tmp 114) 31 rfl w1.heap.size 66 i0 _ 2 48 Tryd.underlying31 hi hz0 hz1 hz2 rfl _ k (flat PairV.cells (ps.take k)) rfl
        (HRT.out.below (Below.refl _ _).drew) (cutP g c q1 2) (len - q1) (c - q1) (flat PairV.cells (ps.drop q1)) rfl ?c1 ?c2 (one_pairs _) ?c3 ?c4 (by exact hsB) ?_
      case c1 => rw [flat_length PairV.cells 2 PairV.two, List.length_drop, ← HN.out]
      case c2 =>
        intro hpos
        refine ⟨⟨g, q1 * 2, none⟩, by unfold cutP; rw [if_neg (by omega)], fun j v h => ?_⟩
        rw [add_mk]
        exact (cell_of_heap (w := wc) HGH.out _).trans (HFL.out j v h)
      case c3 => simp only [maxLen]; omega
      case c4 => omega
      intro v2 w2 hrow2 hg2 hat2
      obtain ⟨A2, c2, rfl⟩ := hrow2.form
      obtain ⟨m2, hm2⟩ : ∃ m2 : Nat, m2 = k + (len - q1) := ⟨_, rfl⟩
      have HR2 : Hid (RowX w2 w1.heap.size 66 2 (.slice A2 m2 c2) m2 (flat PairV.cells (ps.take k ++ ps.drop q1))) := Lib.hid (by rw [flat_append, hm2]; exact hrow2)
      have HC2 : Hid (Chg (fun z => z = g) wc w2) := Lib.hid (((Chg.refl _ wc).drew).trans ((Chg.of_grown hg2).mono (fun z _ h => by have h' : some z = some g := h; exact Option.some.inj h')))
      have a0' : w2.cell? ⟨w.heap.size + 1, 0, none⟩ = some (.bool true) := (World.cell?_of_block (a := ⟨w.heap.size + 1, 0, none⟩) (HC2.out.block _ la (by show ¬ w.heap.size + 1 = g; omega))).trans a0
      have HM2 := Lib.hid hm2
      rw [← hm2]
      clear hrow2 hg2 hat2 hm2 a0
      go_wp2
      go_quiet (fail)
      go_wp2
      go_ret2
      have hpl : (ps.take k ++ ps.drop q1).length = m2 := by rw [HM2.out, List.length_append, List.length_take, List.length_drop, ← HN.out]; omega
      have hbw : Below w1.heap.size w1 w2 := HB1.out.trans (HC2.out.below hsB (fun z e => by omega))
      exact ⟨A2, c2, ps.take k ++ ps.drop q1, (by first | (rw [hpl]; rfl) | rw [hpl]), by rw [hpl]; exact (by first | exact HR2.out | exact HR2.out.below (below_drewN (Below.refl _ _) _) | exact HR2.out.below (Below.refl _ _).drew), by rw [HQ1.out]; exact HER.out, (by first | exact hbw | exact below_drewN hbw _ | exact hbw.drew)⟩

end Go.Proofs.YtffgkocokkhahaaDoor
