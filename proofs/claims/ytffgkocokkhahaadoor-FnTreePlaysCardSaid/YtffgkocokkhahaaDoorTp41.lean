/-
  laws.treeDeed: seekb. PRINTED BY wip/tpl/gen_yrd.py. || laws.treeDeed: any deed. || What the law checks of a deed, as plain Lean; deeds that pass are deeds that a tree takes. PRINTED BY wip/tpl/gen_yla.py. || What the walk of laws.FnTreePlays takes from what a tree told.
-/
import Derived.Test.YtffgkocokkhahaaDoorTp36
import Derived.Deep.CutRange
import Derived.Deep.RegionLaw
import Derived.BigQuiet
import Derived.StillTailTactics
import Derived.Deep.RegionHeld3
import Derived.Test.YtffgkocokkhahaaDoorTp37
import Derived.Test.YtffgkocokkhahaaDoorTp38
import Derived.Test.YtffgkocokkhahaaDoorTp39
import Derived.Test.YtffgkocokkhahaaDoorTp40

/- laws.treeDeed: seekb. PRINTED BY wip/tpl/gen_yrd.py. -/
namespace Go.Proofs.YtffgkocokkhahaaDoor
open Go.RowKit

set_option maxRecDepth 100000 in
set_option maxHeartbeats 3200000 in
theorem ld_seekb {dsc : Bool} {n : Nat} {st : List PR} {ps : List PairV} {A : Option Addr} {c : Nat} {K V : List VV} {N : Int} {kA : Option Addr} {kc : Nat} {vA : Option Addr} {vc : Nat} {a : TAV} {w1 w : World} (h : DeedIn dsc n st ps A c ⟨.seek, K, V, N⟩ kA kc vA vc a w1 w) (hNs : N < 0) :
    Calls Tryd.prog 10 #[.bool dsc, .slice A ps.length c, .agg #[.string ⟨#[115, 101, 101, 107]⟩, .slice kA K.length kc, .slice vA V.length vc, .int .i64 N], .agg #[.bool a.is, .int .i64 a.n, .slice a.R a.us.length a.c, .slice a.P a.rs.length a.pc]] w (LDeed dsc n st ⟨.seek, K, V, N⟩ w1) := by
  unfold LDeed
  have hlen9 := h.len
  have hfN0 : -1000 ≤ N := h.fit.lo
  have hfN1 : N ≤ 1000 := h.fit.hi
  have hbs := h.below.size
  have HH := Lib.hid h
  obtain ⟨len, hlen⟩ : ∃ len, len = ps.length := ⟨_, rfl⟩
  obtain ⟨kl, hkl⟩ : ∃ kl, kl = K.length := ⟨_, rfl⟩
  obtain ⟨opv, hopv⟩ : ∃ opv : ByteArray, opv = ⟨#[115, 101, 101, 107]⟩ := ⟨_, rfl⟩
  have HN := Lib.hid hlen
  have HKL := Lib.hid hkl
  have HOP := Lib.hid hopv
  rw [← hlen, ← hkl, ← hopv]
  rw [← hlen] at hlen9
  clear h hlen hkl hopv
  go_enter Tryd.func10, Tryd.ntmps10
  go_upto_if 15 with fail
  obtain ⟨W0, hW0⟩ : ∃ W0, W0 = (w.alloc (.cells #[.string opv, .slice kA kl kc, .slice vA V.length vc, .int .i64 N] 27)).alloc (.cells #[.bool a.is, .int .i64 a.n, .slice a.R a.us.length a.c, .slice a.P a.rs.length a.pc] 35) := ⟨_, rfl⟩
  rw [← hW0]
  have HB0 : Hid (Below w.heap.size w W0) := Lib.hid (by rw [hW0]; exact below_al2' w _ _)
  have HD0 : Hid (W0.heap[w.heap.size]? = some (.cells #[.string opv, .slice kA kl kc, .slice vA V.length vc, .int .i64 N] 27 (0, 0))) := Lib.hid (by rw [hW0]; exact (heap_alloc_ne _ _ _ (by simp)).trans (heap_new w _))
  have HA0 : Hid (W0.heap[w.heap.size + 1]? = some (.cells #[.bool a.is, .int .i64 a.n, .slice a.R a.us.length a.c, .slice a.P a.rs.length a.pc] 35 (0, 0))) := Lib.hid (by rw [hW0]; have := heap_new (w.alloc (.cells #[.string opv, .slice kA kl kc, .slice vA V.length vc, .int .i64 N] 27)) (.cells #[.bool a.is, .int .i64 a.n, .slice a.R a.us.length a.c, .slice a.P a.rs.length a.pc] 35); simpa using this)
  clear hW0
  go_cut [10, 11] from 12 to 49 (fun s10 s11 wx => ∃ (k : Nat) (b : Bool), s10 = .int .i64 (k : Int) ∧ s11 = .bool b ∧ Place dsc n st K k b ∧ Below W0.heap.size W0 wx)
  case first =>
    by_cases hK0 : 0 < kl
    · have hd0 : decide (0 < kl) = true := decide_eq_true hK0
      rw [hd0]
      go_wp2
      go_loopw [10] (fun i wr => ∃ k : Nat, k ≤ len ∧ i = .int .i64 (k : Int) ∧ Below W0.heap.size W0 wr ∧ ∀ (j : Nat) (r : PairV), j < k → ps[j]? = some r → ∃ c, Told dsc n K r c ∧ c < 0) (fun i _ => len - (intOf i).toNat)
      case atStart => exact ⟨0, by omega, rfl, Below.refl _ _, fun j r hj => by omega⟩
      case round =>
        obtain ⟨k, hk, rfl, hb, hall⟩ := hrel
        have HALL := Lib.hid hall
        have HB := Lib.hid hb
        have HBW := Lib.hid (up_below' HB0.out hb)
        have d1 := cell_of_heap (heap_below HD0.out hb) 1
        clear hall hb
        by_cases hlt : k < len
        · obtain ⟨r, hr⟩ : ∃ r, ps[k]? = some r := ⟨_, List.getElem?_eq_getElem (by rw [← HN.out]; exact hlt)⟩
          obtain ⟨⟨ad, rfl, hbl, h0, h1⟩, _⟩ := (HH.out.pairs HBW.out) k r hr
          have HR := Lib.hid hr
          have HC := Lib.hid (fun (w' : World) (hb : Below _ _ w') => by have := HH.out.cmp (by show 0 < K.length; rw [← HKL.out]; exact hK0) (List.mem_of_getElem? hr) (up_below' HBW.out hb); rw [← HKL.out] at this; exact this)
          have hd : decide ((k : Int) < (len : Int)) = true := decide_eq_true (by omega)
          clear hr h1
          go_wp2
          go_still_tail 13, (by kernel_rfl)
          change wpList _ _ _ _ _ (_ : World).drew
          go_wp2_with (go_at_call 16
                       refine (HC.out _ (Below.refl _ _).drew).mono ?_
                       rintro e w3 ⟨cc, rfl, ht, hb3⟩
                       have HT := Lib.hid ht
                       have HB3 : Hid (Below wr.heap.size wr w3) := Lib.hid (up_below' (Below.refl _ _).drew hb3)
                       have hbl3 : (ad.add (k * 2)).block < w3.heap.size := Nat.lt_of_lt_of_le hbl HB3.out.size
                       have g0 := (HB3.out.cell hbl).trans h0
                       have d3 := (HB3.out.cell (p := ⟨w.heap.size, 1, none⟩) (lt_of_heap (heap_below HD0.out HB.out))).trans d1
                       have HC3 := Lib.hid (fun (w' : World) (hb : Below w3.heap.size w3 w') => HC.out w' (up_below' HB3.out hb))
                       clear hb3 ht)
          · refine ⟨⟨k + 1, by omega, by push_cast; rfl, up_below' HB.out HB3.out, fun j z hj hz => ?_⟩, by simp [intOf]; omega⟩
            rcases Nat.lt_or_ge j k with h' | h'
            · exact HALL.out j z h' hz
            · obtain rfl : j = k := by omega
              obtain rfl : z = r := Option.some.inj (hz.symm.trans HR.out)
              exact ⟨cc, HT.out, by first | assumption | omega⟩
          · have hcc : 0 ≤ cc := by omega
            go_still_tail 13, (by kernel_rfl)
            change wpList _ _ _ _ _ (_ : World).drew
            go_wp2_with (go_at_call 16
                         refine (HC3.out _ (Below.refl _ _).drew).mono ?_
                         rintro e w4 ⟨c4, rfl, ht4, hb4⟩
                         have HT4 := Lib.hid ht4
                         have HB4 : Hid (Below w3.heap.size w3 w4) := Lib.hid (up_below' (Below.refl _ _).drew hb4)
                         clear hb4 ht4)
            go_meet
            exact ⟨k, c4 == 0, rfl, rfl, Place.here HH.out.now HR.out HALL.out HT.out hcc HT4.out, up_below' (up_below' HB.out HB3.out) HB4.out⟩
        · have hke : k = len := by omega
          subst hke
          have hd : decide ((k : Int) < (k : Int)) = false := decide_eq_false (by omega)
          go_wp2
          go_quiet (fail)
          go_wp2
          go_quiet (fail)
          go_wp2
          go_meet
          exact ⟨k, false, rfl, rfl, Place.end_ HH.out.now (by rw [HN.out]) HALL.out, (by first | exact HB.out | exact below_drewN (below_drewN HB.out _) _ | exact HB.out.drew.drew)⟩
    · have hK1 : kl = 0 := by omega
      subst hK1
      go_wp2
      go_meet
      exact ⟨0, false, rfl, rfl, Place.none HH.out.n1 HKL.out.symm, Below.refl _ _⟩
  case rest =>
    obtain ⟨k, b, rfl, rfl, hpl, hb⟩ := hcut
    have HPL := Lib.hid hpl
    have HBC := Lib.hid (up_below' HB0.out hb)
    have hdh := heap_below HD0.out hb
    have hah := heap_below HA0.out hb
    have ld := lt_of_heap hdh
    have la := lt_of_heap hah
    have d0 := cell_of_heap hdh 0
    have d1 := cell_of_heap hdh 1
    have d2 := cell_of_heap hdh 2
    have d3 := cell_of_heap hdh 3
    have a0 := cell_of_heap hah 0
    have a1 := cell_of_heap hah 1
    have a2 := cell_of_heap hah 2
    have a3 := cell_of_heap hah 3
    have HROW : Hid (RowX wc w1.heap.size 66 2 (.slice A len c) len (flat PairV.cells ps)) := Lib.hid (by have := HH.out.row.below HBC.out; rw [← HN.out] at this; exact this)
    have HB1 : Hid (Below w1.heap.size w1 wc) := Lib.hid (up_below' HH.out.below HBC.out)
    have hopv := HOP.out
    subst hopv
    have HDC := Lib.hid hdh
    clear hpl hb hdh hah HOP
    simp only [List.getElem?_toArray, List.getElem?_cons_zero, List.getElem?_cons_succ] at d0 d1 d2 d3 a0 a1 a2 a3
    have hkp : k = placeP dsc K st ∧ b = thereP dsc K st := HPL.out.2 (HH.out.fit.key (by simp))
    obtain ⟨hk, hbt⟩ := hkp
    have his := HH.out.says.is (thereP dsc K st) rfl
    rw [← hbt] at his
    rw [his] at a0
    have hne : (b != b) = false := by simp
    have hkl : k ≤ len := by rw [HN.out, HH.out.now.len]; exact HPL.out.1
    have hdN : decide (0 ≤ N) = false := decide_eq_false (by omega)
    by_cases hke : k = len
    · subst hke
      clear a1 a2 d1 d2 hk hbt his
      have hkk : ((k : Int) == (k : Int)) = true := by simp
      go_wp2
      go_quiet (fail)
      go_wp2
      go_ret2
      exact ⟨A, c, ps, (by first | (rw [← HN.out]; rfl) | rw [← HN.out]), by rw [← HN.out]; exact (by first | exact HROW.out | exact HROW.out.below (below_drewN (Below.refl _ _) _) | exact HROW.out.below (Below.refl _ _).drew), HH.out.now.same rfl, (by first | exact HB1.out | exact below_drewN HB1.out _ | exact HB1.out.drew)⟩
    · have hkl2 : k < len := by omega
      have hkk : ((k : Int) == (len : Int)) = false := by simp; omega
      have hwn : IntKind.i64.wrap (-N) = -N := IntWalk.i64_in _ (by omega)
      obtain ⟨ql, hql⟩ : ∃ ql : List PairV, ql = (ps.take (k + 1)).reverse.take (-N).toNat := ⟨_, rfl⟩
      obtain ⟨mm, hmm⟩ : ∃ mm : Nat, mm = ql.length := ⟨_, rfl⟩
      have HBP : Hid (∀ (w' : World), Below wc.heap.size wc w' → Calls Tryd.prog 24 #[.slice A len c, .int .i64 (k : Int), .int .i64 (-N)] w' fun y w'' => ∃ A5 c5, y = .returned (.slice A5 mm c5) ∧ PairsAt w'' A5 ql ∧ Below w'.heap.size w' w'') := Lib.hid (fun w' hb => by
        have h := backPairs_any ps A c (k + 1) (-N) w' ((HH.out.pairs HBC.out).below hb) (by rw [← HN.out]; omega) (by rw [← HN.out]; omega) (by omega) (by omega)
        rw [← HN.out, ← hql, show (((k + 1 : Nat) : Int) - 1) = (k : Int) by omega] at h
        refine h.mono ?_
        rintro y w'' ⟨A5, c5, rfl, hown, hb5⟩
        refine ⟨A5, c5, by rw [hmm], pairs_reads (Reads.of_own hown) rfl (fun r hr => ?_), hb5⟩
        have hrm : r ∈ ps := by
          rw [hql] at hr
          exact List.mem_of_mem_take (List.mem_reverse.1 (List.mem_of_mem_take hr))
        exact ⟨(((HH.out.now.at_ r hrm).1.below HB1.out).below hb).below hb5, (((HH.out.now.at_ r hrm).2.below HB1.out).below hb).below hb5⟩)
      have HS : Hid (∀ (w' : World) A5 c5, Below wc.heap.size wc w' → PairsAt w' A5 ql → Calls Tryd.prog 23 #[.slice a.P a.rs.length a.pc, .slice A5 mm c5] w' fun e w'' => e = .returned (.bool true) ∧ Below w'.heap.size w' w'') := Lib.hid (fun w' A5 c5 hb h5 => by
        have hout := HH.out.says.ps ((st.take (k + 1)).reverse.take (-N).toNat) (by
          show (if 0 ≤ N then some ((st.drop (placeP dsc K st)).take N.toNat) else if placeP dsc K st < st.length then some ((st.take (placeP dsc K st + 1)).reverse.take (-N).toNat) else none) = _
          rw [if_neg (by omega), ← hk, if_pos (by rw [← HH.out.now.len, ← HN.out]; exact hkl2)])
        have e1 : ql.map PairV.pr = (st.take (k + 1)).reverse.take (-N).toNat := by
          rw [hql, List.map_take, List.map_reverse, List.map_take, HH.out.now.prs]
        have hs := same_of_out HH.out.now HH.out.n3 (qs := ql) (by rw [e1]; exact hout) (fun r hr => by
          rw [hql] at hr
          exact List.mem_of_mem_take (List.mem_reverse.1 (List.mem_of_mem_take hr)))
        have hle : ql.length ≤ len := by rw [hql, List.length_take, List.length_reverse, List.length_take]; omega
        rw [hmm]
        exact samePairs_true a.rs ql a.P A5 a.pc c5 w' ((HH.out.rs.below HB1.out).below hb) h5 hs (by rw [hs.1]; omega))
      clear a1 a2 d1 d2 hk hbt his hql hmm
      go_wp2
      go_region_held3 (fun w' => w'.cell? ⟨w.heap.size + 1, 3, none⟩ = some (.slice a.P a.rs.length a.pc) ∧ w'.cell? ⟨w.heap.size, 3, none⟩ = some (.int .i64 N))
        (first | go_keep | exact ⟨a3', d3'⟩)
        (first
          | (go_at_call 24
             refine (HBP.out _ (by first | exact Below.refl _ _ | exact (Below.refl _ _).drew)).mono ?_
             rintro e w3 ⟨A5, c5, rfl, h5, hb3'⟩
             have HP5 := Lib.hid h5
             have hb3 : Below wc.heap.size wc w3 := (by first | exact hb3' | exact ⟨hb3'.os, hb3'.tape, hb3'.output, hb3'.size, hb3'.block⟩)
             have HB3 := Lib.hid hb3
             have a3' := (hb3.cell (p := ⟨w.heap.size + 1, 3, none⟩) la).trans a3
             have d3' := (hb3.cell (p := ⟨w.heap.size, 3, none⟩) ld).trans d3
             clear hb3 hb3' h5)
          | (go_at_call 23
             refine (HS.out _ A5 c5 HB3.out HP5.out).mono ?_
             rintro e w4 ⟨rfl, hb4'⟩
             have HB4 : Hid (Below wc.heap.size wc w4) := Lib.hid (up_below' HB3.out hb4')
             have a3' := (HB4.out.cell (p := ⟨w.heap.size + 1, 3, none⟩) la).trans a3
             have d3' := (HB4.out.cell (p := ⟨w.heap.size, 3, none⟩) ld).trans d3
             clear hb4'))
      all_goals
        go_wp2
        go_ret2
        exact ⟨_, c, ps, (by first | (rw [← HN.out]; rfl) | rw [← HN.out]), by rw [← HN.out]; exact HROW.out.below HB4.out, HH.out.now.same rfl, up_below' HB1.out HB4.out⟩

end Go.Proofs.YtffgkocokkhahaaDoor

/- laws.treeDeed: any deed. -/
namespace Go.Proofs.YtffgkocokkhahaaDoor
open Go.RowKit

theorem ld_any {dsc : Bool} {n : Nat} {st : List PR} {ps : List PairV} {A : Option Addr} {c : Nat} {x : TD} {kA : Option Addr} {kc : Nat} {vA : Option Addr} {vc : Nat} {a : TAV} {w1 w : World} (h : DeedIn dsc n st ps A c x kA kc vA vc a w1 w) :
    Calls Tryd.prog 10 #[.bool dsc, .slice A ps.length c, .agg #[.string x.op.s, .slice kA x.K.length kc, .slice vA x.V.length vc, .int .i64 x.N], .agg #[.bool a.is, .int .i64 a.n, .slice a.R a.us.length a.c, .slice a.P a.rs.length a.pc]] w (LDeed dsc n st x w1) := by
  obtain ⟨op, K, V, N⟩ := x
  cases op with
  | set =>
    cases ht : thereP dsc K st with
    | true => exact ld_sett h ht
    | false => exact ld_setn h ht
  | get => exact ld_get h
  | delete => exact ld_delete h
  | clear => exact ld_clear h
  | len => exact ld_len h
  | ends => exact ld_ends h
  | first => exact ld_first h
  | last => exact ld_last h
  | seek =>
    rcases Int.lt_or_le N 0 with h1 | h1
    · exact ld_seekb h h1
    · exact ld_seekf h h1

end Go.Proofs.YtffgkocokkhahaaDoor

/- What the law checks of a deed, as plain Lean; deeds that pass are deeds that a tree takes. PRINTED BY wip/tpl/gen_yla.py. -/
namespace Go.Proofs.YtffgkocokkhahaaDoor
open Go.RowKit

theorem ba_of {op : ByteArray} {l : List UInt8} (h : op.toList = l) : op = ⟨l.toArray⟩ := by rw [← h, ByteArray.toList_eq]

def opT (b : ByteArray) : Option TOp :=
  if b.toList == [115, 101, 116] then some .set else
  if b.toList == [103, 101, 116] then some .get else
  if b.toList == [100, 101, 108, 101, 116, 101] then some .delete else
  if b.toList == [115, 101, 101, 107] then some .seek else
  if b.toList == [99, 108, 101, 97, 114] then some .clear else
  if b.toList == [108, 101, 110] then some .len else
  if b.toList == [101, 110, 100, 115] then some .ends else
  if b.toList == [102, 105, 114, 115, 116] then some .first else
  if b.toList == [108, 97, 115, 116] then some .last else
  none

theorem opT_some {b : ByteArray} {x : TOp} (h : opT b = some x) : b = x.s := by
  unfold opT at h
  by_cases h_set : (b.toList == [115, 101, 116]) = true
  · rw [if_pos h_set] at h
    obtain rfl := Option.some.inj h
    exact ba_of (by simpa using h_set)
  rw [if_neg h_set] at h
  by_cases h_get : (b.toList == [103, 101, 116]) = true
  · rw [if_pos h_get] at h
    obtain rfl := Option.some.inj h
    exact ba_of (by simpa using h_get)
  rw [if_neg h_get] at h
  by_cases h_delete : (b.toList == [100, 101, 108, 101, 116, 101]) = true
  · rw [if_pos h_delete] at h
    obtain rfl := Option.some.inj h
    exact ba_of (by simpa using h_delete)
  rw [if_neg h_delete] at h
  by_cases h_seek : (b.toList == [115, 101, 101, 107]) = true
  · rw [if_pos h_seek] at h
    obtain rfl := Option.some.inj h
    exact ba_of (by simpa using h_seek)
  rw [if_neg h_seek] at h
  by_cases h_clear : (b.toList == [99, 108, 101, 97, 114]) = true
  · rw [if_pos h_clear] at h
    obtain rfl := Option.some.inj h
    exact ba_of (by simpa using h_clear)
  rw [if_neg h_clear] at h
  by_cases h_len : (b.toList == [108, 101, 110]) = true
  · rw [if_pos h_len] at h
    obtain rfl := Option.some.inj h
    exact ba_of (by simpa using h_len)
  rw [if_neg h_len] at h
  by_cases h_ends : (b.toList == [101, 110, 100, 115]) = true
  · rw [if_pos h_ends] at h
    obtain rfl := Option.some.inj h
    exact ba_of (by simpa using h_ends)
  rw [if_neg h_ends] at h
  by_cases h_first : (b.toList == [102, 105, 114, 115, 116]) = true
  · rw [if_pos h_first] at h
    obtain rfl := Option.some.inj h
    exact ba_of (by simpa using h_first)
  rw [if_neg h_first] at h
  by_cases h_last : (b.toList == [108, 97, 115, 116]) = true
  · rw [if_pos h_last] at h
    obtain rfl := Option.some.inj h
    exact ba_of (by simpa using h_last)
  rw [if_neg h_last] at h
  cases h

theorem opT_none {b : ByteArray} (h : opT b = none) : (b.toList == [115, 101, 116]) = false ∧ (b.toList == [103, 101, 116]) = false ∧ (b.toList == [100, 101, 108, 101, 116, 101]) = false ∧ (b.toList == [115, 101, 101, 107]) = false ∧ (b.toList == [99, 108, 101, 97, 114]) = false ∧ (b.toList == [108, 101, 110]) = false ∧ (b.toList == [101, 110, 100, 115]) = false ∧ (b.toList == [102, 105, 114, 115, 116]) = false ∧ (b.toList == [108, 97, 115, 116]) = false := by
  unfold opT at h
  by_cases h_set : (b.toList == [115, 101, 116]) = true
  · rw [if_pos h_set] at h; cases h
  rw [if_neg h_set] at h
  by_cases h_get : (b.toList == [103, 101, 116]) = true
  · rw [if_pos h_get] at h; cases h
  rw [if_neg h_get] at h
  by_cases h_delete : (b.toList == [100, 101, 108, 101, 116, 101]) = true
  · rw [if_pos h_delete] at h; cases h
  rw [if_neg h_delete] at h
  by_cases h_seek : (b.toList == [115, 101, 101, 107]) = true
  · rw [if_pos h_seek] at h; cases h
  rw [if_neg h_seek] at h
  by_cases h_clear : (b.toList == [99, 108, 101, 97, 114]) = true
  · rw [if_pos h_clear] at h; cases h
  rw [if_neg h_clear] at h
  by_cases h_len : (b.toList == [108, 101, 110]) = true
  · rw [if_pos h_len] at h; cases h
  rw [if_neg h_len] at h
  by_cases h_ends : (b.toList == [101, 110, 100, 115]) = true
  · rw [if_pos h_ends] at h; cases h
  rw [if_neg h_ends] at h
  by_cases h_first : (b.toList == [102, 105, 114, 115, 116]) = true
  · rw [if_pos h_first] at h; cases h
  rw [if_neg h_first] at h
  by_cases h_last : (b.toList == [108, 97, 115, 116]) = true
  · rw [if_pos h_last] at h; cases h
  rw [if_neg h_last] at h
  exact ⟨Bool.eq_false_iff.2 h_set, Bool.eq_false_iff.2 h_get, Bool.eq_false_iff.2 h_delete, Bool.eq_false_iff.2 h_seek, Bool.eq_false_iff.2 h_clear, Bool.eq_false_iff.2 h_len, Bool.eq_false_iff.2 h_ends, Bool.eq_false_iff.2 h_first, Bool.eq_false_iff.2 h_last⟩

def TOp.keyed : TOp → Bool
  | .set | .get | .delete | .seek => true
  | _ => false

/-- What the law asks of a deed. -/
def deedB (n : Int) (d : RDV) : Bool := match opT d.op with
  | none => false
  | some o => (!o.keyed || isKeyB d.K n) && (concL d.V 10 && (decide (-1000 ≤ d.N) && (decide (d.N ≤ 1000) && (decide (0 ≤ d.N) || o == .seek))))

def DeedRng (d : RDV) : Prop := (∀ x ∈ d.K, Rng x.n x.u x.f) ∧ (∀ x ∈ d.V, Rng x.n x.u x.f)

theorem concL_conc {l : List VV} {most : Int} (h : concL l most = true) (hr : ∀ x ∈ l, Rng x.n x.u x.f) : ConcL l ∧ (l.length : Int) ≤ most := by
  unfold concL at h
  simp only [Bool.and_eq_true, decide_eq_true_eq, List.all_eq_true] at h
  exact ⟨fun j x hx => ⟨h.2 x (List.mem_of_getElem? hx), hr x (List.mem_of_getElem? hx)⟩, h.1⟩

/-- A deed that passed, as a tree takes it. -/
def RDV.t (d : RDV) : TDV := ⟨⟨(opT d.op).getD .clear, d.K, d.V, d.N⟩, d.A, d.c, d.B, d.d⟩

theorem deedB_op {n : Int} {d : RDV} (h : deedB n d = true) : d.op = d.t.x.op.s := by
  unfold deedB at h
  split at h
  · cases h
  · rename_i o ho
    rw [opT_some ho]
    show o.s = ((opT d.op).getD .clear).s
    rw [ho]
    rfl

theorem deedB_fit {n : Nat} {d : RDV} (h : deedB (n : Int) d = true) (hr : DeedRng d) : TFit n d.t.x := by
  unfold deedB at h
  split at h
  · cases h
  · rename_i o ho
    have e : d.t.x = ⟨o, d.K, d.V, d.N⟩ := by unfold RDV.t; rw [ho]; rfl
    rw [e]
    simp only [Bool.and_eq_true, Bool.or_eq_true, Bool.not_eq_true', decide_eq_true_eq, beq_iff_eq] at h
    obtain ⟨hk, hc, h1, h2, h3⟩ := h
    obtain ⟨cv, lv⟩ := concL_conc hc hr.2
    refine ⟨fun hop => ?_, cv, by show d.V.length ≤ 1000; omega, h1, h2, fun hN => ?_⟩
    · have hk' : o.keyed = true := by
        simp only at hop
        rcases hop with rfl | rfl | rfl | rfl <;> rfl
      rcases hk with hk | hk
      · rw [hk'] at hk; cases hk
      · unfold isKeyB at hk
        simp only [Bool.and_eq_true, beq_iff_eq] at hk
        exact ⟨by show d.K.length = n; omega, (concL_conc hk.2 hr.1).1⟩
    · simp only at hN ⊢
      rcases h3 with h3 | h3
      · omega
      · exact h3

theorem tdeeds_of {w : World} {A : Option Addr} {ds : List RDV} {n : Int} (h : RDeedsAt w A ds) (hd : ∀ d ∈ ds, deedB n d = true) : TDeedsAt w A (ds.map RDV.t) := by
  intro i t ht
  rw [List.getElem?_map] at ht
  cases hi : ds[i]? with
  | none => rw [hi] at ht; cases ht
  | some d =>
    rw [hi] at ht
    obtain rfl := Option.some.inj ht
    obtain ⟨⟨ad, rfl, hlt, h0, h1, h2, h3⟩, hl, hv⟩ := h i d hi
    rw [deedB_op (hd d (List.mem_of_getElem? hi))] at h0
    exact ⟨⟨ad, rfl, hlt, h0, h1, h2, h3⟩, hl, hv⟩

end Go.Proofs.YtffgkocokkhahaaDoor

/- What the walk of laws.FnTreePlays takes from what a tree told. -/
namespace Go.Proofs.YtffgkocokkhahaaDoor
open Go.RowKit

/-- Answers in memory. -/
def AnsAt (w : World) (A : Option Addr) (av : List TAV) : Prop :=
  ∀ (i : Nat) (a : TAV), av[i]? = some a → (∃ ad, A = some ad ∧ (ad.add (i * 4)).block < w.heap.size ∧ w.cell? (ad.add (i * 4)) = some (.bool a.is) ∧ w.cell? ⟨(ad.add (i * 4)).block, (ad.add (i * 4)).off + 1, none⟩ = some (.int .i64 a.n) ∧
    w.cell? ⟨(ad.add (i * 4)).block, (ad.add (i * 4)).off + 2, none⟩ = some (.slice a.R a.us.length a.c) ∧ w.cell? ⟨(ad.add (i * 4)).block, (ad.add (i * 4)).off + 3, none⟩ = some (.slice a.P a.rs.length a.pc)) ∧ LAt w a.R a.us ∧ PairsAt w a.P a.rs

theorem AnsAt.below {w w' : World} {A : Option Addr} {av : List TAV} (h : AnsAt w A av) (hb : Below w.heap.size w w') : AnsAt w' A av := by
  intro i a ha
  obtain ⟨⟨ad, rfl, hlt, h0, h1, h2, h3⟩, hu, hp⟩ := h i a ha
  refine ⟨⟨ad, rfl, Nat.lt_of_lt_of_le hlt hb.size, ?_, ?_, ?_, ?_⟩, hu.below hb, hp.below hb⟩
  all_goals (rw [hb.cell (by exact hlt)]; assumption)

theorem ansAt_own {w : World} {B c n : Nat} {A : Option Addr} {av : List TAV} {D : Nat → Prop} (h : w.ownsRow B 35 4 (.slice A n c) n (flat TAV.cells av)) (hn : av.length = n) (hin : ∀ a ∈ av, TAnsIn D w a) : AnsAt w A av := by
  intro i a ha
  have hr := Reads.of_own h
  have hi := (List.getElem?_eq_some_iff.1 ha).1
  obtain ⟨ad, rfl, hlt, hc⟩ := hr.2 (by omega)
  have hat : ∀ (j : Nat) (v : Value), j < 4 → a.cells[j]? = some v → w.cell? (ad.add (i * 4 + j)) = some v := fun j v hj hv => hc _ _ (flat_at TAV.cells 4 TAV.four av i a j v ha hj hv)
  have hI := hin a (List.mem_of_getElem? ha)
  refine ⟨⟨ad, rfl, by rw [block_add]; exact hlt, hat 0 _ (by omega) rfl, ?_, ?_, ?_⟩, lat_reads hI.vals.reads rfl, pairs_reads hI.prs.reads rfl (fun r hr => ⟨lat_reads (hI.prs.keys r hr).reads rfl, lat_reads (hI.prs.vals r hr).reads rfl⟩)⟩
  · rw [← madd_off ad (i * 4) 1 (by decide)]; exact hat 1 _ (by omega) rfl
  · rw [← madd_off ad (i * 4) 2 (by decide)]; exact hat 2 _ (by omega) rfl
  · rw [← madd_off ad (i * 4) 3 (by decide)]; exact hat 3 _ (by omega) rfl

/-- The deeds as plain ones. -/
def plainT (dv : List RDV) : List TD := (dv.map RDV.t).map TDV.x
theorem plainT_at {dv : List RDV} {i : Nat} {d : RDV} (h : dv[i]? = some d) : (plainT dv)[i]? = some d.t.x := by unfold plainT; rw [List.getElem?_map, List.getElem?_map, h]; rfl
def TreeL (dsc : Bool) (dv : List RDV) (len : Nat) (w : World) (y : Ending) (w' : World) : Prop :=
  ∃ A c av, y = .returned (.slice A len c) ∧ av.length = len ∧ AnsAt w' A av ∧ TAnsAll dsc (plainT dv) av ∧ Below w.heap.size w w'

theorem treeL_any {dsc : Bool} {n : Nat} {dv : List RDV} {A : Option Addr} {c len : Nat} {w : World} {E : Value} (hlen : len = dv.length) (hn : n ≤ 1000) (hd : ∀ d ∈ dv, deedB (n : Int) d = true) (hr : ∀ d ∈ dv, DeedRng d) (h9 : len ≤ 900) (hE : HasEof w E) (hl : RDeedsAt w A dv) :
    Calls Tryd.prog 9 #[.bool dsc, .slice A len c] w (TreeL dsc dv len w) := by
  subst hlen
  have h := tree_any (dsc := dsc) (n := n) (dv := dv.map RDV.t) (A := A) (c := c) (w := w) (E := E) hn (fun t ht => by
    obtain ⟨d, hdm, rfl⟩ := List.mem_map.1 ht
    exact deedB_fit (hd d hdm) (hr d hdm)) (by rw [List.length_map]; exact h9) hE (tdeeds_of hl hd)
  rw [List.length_map] at h
  refine h.mono ?_
  rintro y w' ⟨A', c', av, D, rfl, hown, hal, hans, hin, _, hb⟩
  have hpl : ((dv.map RDV.t).map TDV.x).length = dv.length := by simp
  rw [hpl] at hown hal
  exact ⟨A', c', av, by rw [hpl], hal, ansAt_own hown hal hin, hans, hb⟩

/-- What holds between the law's own deeds. -/
structure LawL (dsc : Bool) (n : Nat) (dv : List RDV) (k : Nat) (now : Value) (w1 w : World) (A : Option Addr) (c : Nat) (ps : List PairV) : Prop where
  val : now = .slice A ps.length c
  row : RowX w w1.heap.size 66 2 (.slice A ps.length c) ps.length (flat PairV.cells ps)
  now : NowL dsc n (runT dsc [] ((plainT dv).take k)) ps w1
  below : Below w1.heap.size w1 w

theorem LawL.start (dsc : Bool) (n : Nat) (dv : List RDV) (w1 : World) : LawL dsc n dv 0 (.slice none 0 0) w1 w1 none 0 [] := ⟨rfl, RowX.nil _ _ _ _, NowL.nil _ _ _, Below.refl _ _⟩

theorem LawL.len {dsc : Bool} {n : Nat} {dv : List RDV} {k : Nat} {now : Value} {w1 w : World} {A : Option Addr} {c : Nat} {ps : List PairV} (h : LawL dsc n dv k now w1 w A c ps) : ps.length ≤ k := by
  have h1 := runT_len dsc ((plainT dv).take k) []
  have h2 := h.now.len
  have h3 : ((plainT dv).take k).length ≤ k := by simp; omega
  simp only [List.length_nil] at h1
  omega

theorem law_step {dsc : Bool} {n : Nat} {dv : List RDV} {k : Nat} {now : Value} {w1 wr : World} {A : Option Addr} {c : Nat} {ps : List PairV} (h : LawL dsc n dv k now w1 wr A c ps) (hn1 : 1 ≤ n) (hn3 : n ≤ 1000) (h9 : dv.length ≤ 900)
    {d : RDV} (hd : dv[k]? = some d) (hdb : deedB (n : Int) d = true) (hrng : DeedRng d) (hkl : d.K.length ≤ 2147483647) (hK : LAt w1 d.A d.K) (hV : LAt w1 d.B d.V)
    {a : TAV} {av : List TAV} (ha : av[k]? = some a) (hans : TAnsAll dsc (plainT dv) av) (hus : LAt w1 a.R a.us) (hrs : PairsAt w1 a.P a.rs) {w' : World} (hb : Below wr.heap.size wr w') :
    Calls Tryd.prog 10 #[.bool dsc, .slice A ps.length c, .agg #[.string d.op, .slice d.A d.K.length d.c, .slice d.B d.V.length d.d, .int .i64 d.N], .agg #[.bool a.is, .int .i64 a.n, .slice a.R a.us.length a.c, .slice a.P a.rs.length a.pc]] w' fun y w'' =>
      ∃ A' c' ps', y = .returned (.tuple #[.slice A' ps'.length c', .bool true]) ∧ LawL dsc n dv (k + 1) (.slice A' ps'.length c') w1 w'' A' c' ps' := by
  have hk := (List.getElem?_eq_some_iff.1 hd).1
  have hB : w1.heap.size ≤ wr.heap.size := h.below.size
  have hIn : DeedIn dsc n (runT dsc [] ((plainT dv).take k)) ps A c d.t.x d.A d.c d.B d.d a w1 w' :=
    ⟨h.now, h.row.below hb, hn1, hn3, by have := h.len; omega, deedB_fit hdb hrng, hkl, fun j z hz => hrng.1 z (List.mem_of_getElem? hz), hK, hV, hans k a d.t.x ha (plainT_at hd), hus, hrs, h.below.trans (hb.mono hB)⟩
  have := ld_any hIn
  rw [← deedB_op hdb] at this
  refine this.mono ?_
  rintro y w'' ⟨A', c', ps', rfl, hrow, hnow, hbel⟩
  refine ⟨A', c', ps', rfl, rfl, hrow, ?_, hbel⟩
  rw [take_snoc' (plainT_at hd), runT_snoc]
  exact hnow

theorem fits12_K {dv : List RDV} (h : fits12B dv = true) : ∀ d ∈ dv, d.K.length ≤ 2147483647 ∧ d.V.length ≤ 2147483647 := by
  intro d hd
  unfold fits12B at h
  simp only [Bool.and_eq_true, decide_eq_true_eq, List.all_eq_true] at h
  have h1 := h.2 d hd
  unfold fits13B fits2B at h1
  simp only [Bool.and_eq_true, decide_eq_true_eq] at h1
  exact ⟨h1.2.1.1, h1.2.2.1⟩

end Go.Proofs.YtffgkocokkhahaaDoor
