/-
  The walk of laws.FnIndexUnique: it returns true. PRINTED BY wip/tpl/gen_xuq.py. || An argument of type impl.Value, opened to its five fields.
-/
import Derived.Test.YtffgkocokkhahaaDoorIxu25
import Derived.Test.YtffgkocokkhahaaDoorIxu05
import Derived.ProofKit
import Derived.OpenShut
import Derived.ShutString
import Derived.ChangeOld
import Derived.Below
import Derived.Laws.Cover2
import Derived.Deep.Slices
import Derived.Deep.Fields

/- The walk of laws.FnIndexUnique: it returns true. PRINTED BY wip/tpl/gen_xuq.py. -/
namespace Go.Proofs.YtffgkocokkhahaaDoor
open Go.RowKit

theorem any_snoc {acc : List RowV} {p : Nat} {q : RowV} (h : acc[p]? = some q) (f : RowV → Bool) : (acc.take (p + 1)).any f = ((acc.take p).any f || f q) := by rw [take_snoc h, List.any_append]; simp

set_option maxRecDepth 100000 in
set_option maxHeartbeats 1600000 in
theorem lawIxu_long (rows : List RowV) (A : Option Addr) (c : Nat) (n : Int) (w : World) (HZ : Hid (Calls Tryd.prog 11 #[.slice A rows.length c] w fun e w' => e = .returned (.bool false) ∧ Below w.heap.size w w')) :
    Calls Tryd.prog 4 #[.slice A rows.length c, .int .i64 n] w fun e w' => e = .returned (.bool true) ∧ Below w.heap.size w w' := by
  go_enter Tryd.func4, Tryd.ntmps4
  go_wp2_with (go_at_call 11; refine HZ.out.mono ?_; rintro e w1 ⟨rfl, hb1⟩)
  go_ret
  exact ⟨rfl, hb1⟩

set_option maxRecDepth 100000 in
set_option maxHeartbeats 12800000 in
theorem lawIxu_fits (rows : List RowV) (A : Option Addr) (c : Nat) (n : Int) (w : World) (hl : RowsAt w A rows) (hr : ∀ r ∈ rows, RowRng r) {E : Value} (hE : HasEof w E) (HZ : Hid (Calls Tryd.prog 11 #[.slice A rows.length c] w fun e w' => e = .returned (.bool true) ∧ Below w.heap.size w w')) :
    Calls Tryd.prog 4 #[.slice A rows.length c, .int .i64 n] w fun e w' => e = .returned (.bool true) ∧ Below w.heap.size w w' := by
  obtain ⟨i0, hi, hz0, hz1, hz2⟩ := info_parts info_ideed
  obtain ⟨j0, hj, hy0, hy1, hy2⟩ := info_parts info_vals
  have HF := Lib.hid (fun w' (hb : Below w.heap.size w w') => filled_any rows A c n w' (hl.below hb) hr)
  have HL := Lib.hid hl
  have HE := Lib.hid hE
  obtain ⟨len, hlen⟩ : ∃ len, len = rows.length := ⟨_, rfl⟩
  have HN := Lib.hid hlen
  unfold FilledP at HF
  rw [← hlen] at HZ HF ⊢
  clear hl hr hE hlen
  go_enter Tryd.func4, Tryd.ntmps4
  go_wp2_with (go_at_call 11; refine HZ.out.mono ?_; rintro e w1 ⟨rfl, hb1⟩)
  go_at_call 12
  refine (HF.out _ hb1).mono ?_
  rintro y w2 (⟨rfl, hb2⟩ | ⟨A2, c2, nn, rfl, hown2, hb2, h600, hn, hn1, hn3, hg⟩)
  · have HB2 := Lib.hid (up_below' hb1 hb2)
    go_wp2_with (go_at_call 13; refine (keeps_any _ (HE.out.below HB2.out)).mono ?_; rintro e w3 ⟨rfl, hb3⟩)
    go_ret
    exact ⟨rfl, up_below' HB2.out hb3⟩
  have HB2 := Lib.hid (up_below' hb1 hb2)
  by_cases hbig : 1 < n
  · clear hown2 hg
    go_wp2_with (go_at_call 13; refine (keeps_any _ (HE.out.below HB2.out)).mono ?_; rintro e w3 ⟨rfl, hb3⟩)
    go_ret
    exact ⟨rfl, up_below' HB2.out hb3⟩
  obtain rfl : nn = 1 := by omega
  have HO2 := Lib.hid (own_mono hown2 hb1.size)
  have HG := Lib.hid hg
  obtain ⟨q, hq⟩ : ∃ q : Nat, q = len + 1 := ⟨_, rfl⟩
  have hq1 : (len : Int) + 1 = (q : Int) := by omega
  have hq2 : IntKind.i64.wrap (q : Int) = (q : Int) := IntWalk.i64_in _ (by omega)
  have hs2 := HB2.out.size
  have hlb : len < q := by omega
  have HQ := Lib.hid hq
  have HLI := Lib.hid (fun w' (hb : Below w.heap.size w w') (r : RowV) (hr : r ∈ rows) => show LAt w' r.A r.us by
    obtain ⟨i, hi, rfl⟩ := List.getElem_of_mem hr
    exact (HL.out.below hb) i _ (List.getElem?_eq_getElem hi) |>.2)
  clear hown2 hb2 hg hq hn hn1 hn3
  go_wp2_with (first
    | (at_builtin
       refine wpList_append_any _ rfl (.tmp 33) (.tmp 38) _ rfl w.heap.size 43 i0 _ 4 56 Tryd.underlying39 hi hz0 hz1 hz2 rfl (by omega) _ len (flat DeedV.cells (rows.map RowV.deed)) rfl
         (HO2.out.alloc _) (w2.heap.size + 1) (some ⟨w2.heap.size, 0, none⟩) 1 1 _ rfl (reads_first _ q _) (fun u hu => by simp only [List.mem_cons, List.not_mem_nil, or_false] at hu; rcases hu with rfl | rfl | rfl | rfl <;> rfl) (by simp only [maxLen]; omega) (by omega) (by simp; omega) ?_
       intro v3 w3 hown3 hg3 _
       have HB3 : Hid (Below w.heap.size w w3) := Lib.hid (HB2.out.trans ((((Chg.refl (fun z => Value.ownBlock _ = some z) w2).alloc _).next (Chg.of_grown hg3) (fun z _ h => h.symm)).below hs2 (fun z hz => own_ge HO2.out hz)))
       have hlc := fun A3 c3 (e : v3 = .slice A3 (len + 1) c3) => law_call_u (A3 := A3) (c3 := c3) HN.out HQ.out HG.out h600 (HE.out.below HB3.out) (HLI.out w3 HB3.out) (e ▸ hown3)
       rw [← HQ.out] at hown3 hlc
       obtain ⟨A3, c3, rfl⟩ := own_form hown3
       have HC3 := Lib.hid (hlc A3 c3 rfl)
       clear hown3 hg3 hlc)
    | (go_at_call 14
       refine HC3.out.mono ?_
       intro y w4 hP
       have hrdd := index_read_u (len := len) HN.out hP
       rw [← HQ.out] at hrdd
       obtain ⟨g, cap, mm, A1, c1, ks, ks', rs, rfl, hrd, hb4⟩ := hrdd
       have HRD := Lib.hid hrd
       have HB4 := Lib.hid (up_below' HB3.out hb4)
       clear hP hrd hb4))
  have hgl := HRD.out.lt
  go_loopw [8, 49] (fun inn i wr => ∃ k : Nat, k ≤ len ∧ i = .int .i64 k ∧ wr.ownsRow w4.heap.size 25 1 inn (acceptL (rows.take k)).length (flat inCells (acceptL (rows.take k))) ∧ Below w4.heap.size w4 wr) (fun _ i _ => len - (intOf i).toNat)
  case atStart => exact ⟨0, by omega, rfl, World.ownsRow_nil _ _ _ _, Below.refl _ _⟩
  case round =>
    rename World => wa
    obtain ⟨k, hk, rfl, hown, hb⟩ := hrel
    have HB := Lib.hid hb
    have HBA := Lib.hid (up_below' HB4.out hb)
    have hsa := HBA.out.size
    have hga : g < wa.heap.size := Nat.lt_of_lt_of_le hgl hb.size
    obtain ⟨acc, hac⟩ : ∃ acc, acc = acceptL (rows.take k) := ⟨_, rfl⟩
    rw [← hac] at hown
    obtain ⟨na, hna⟩ : ∃ na, na = acc.length := ⟨_, rfl⟩
    rw [← hna] at hown
    obtain ⟨A', c', rfl⟩ := own_form hown
    have HO := Lib.hid hown
    have HAC := Lib.hid hac
    have HNA := Lib.hid hna
    have hnk : na ≤ 600 := by
      have h1 := acceptL_len (rows.take k)
      rw [← hac, ← hna, List.length_take] at h1
      omega
    have HAM : Hid (∀ q ∈ acc, q ∈ rows) := Lib.hid (fun q hq => by rw [hac] at hq; exact List.mem_of_mem_take (acceptL_mem _ hq))
    clear hown hb hac hna
    by_cases hlt : k < len
    · obtain ⟨r, hr⟩ : ∃ r, rows[k]? = some r := ⟨_, List.getElem?_eq_getElem (by rw [← HN.out]; exact hlt)⟩
      have HR := Lib.hid hr
      have HRM := Lib.hid (List.mem_of_getElem? hr)
      have hrl := HG.out.len HRM.out
      obtain ⟨rA, rc, rh, rus⟩ := r
      obtain ⟨u, rfl⟩ : ∃ u, rus = [u] := by
        match rus, hrl with
        | [u], _ => exact ⟨u, rfl⟩
      obtain ⟨⟨ad, rfl, hbl, h0, _⟩, hlr⟩ := (HL.out.below HBA.out) k _ hr
      have HLR := Lib.hid hlr
      have hkq : k < q := by omega
      have e0 : wa.cell? ⟨g, k * 3, none⟩ = some (.int .i64 (if accepts acc ⟨rA, rc, rh, [u]⟩ then 0 else 2)) := by rw [HAC.out]; exact (HB.out.cell (p := ⟨g, _, none⟩) hgl).trans (HRD.out.err k _ hr)
      have HA1 : Hid (acceptL (rows.take (k + 1)) = if accepts acc ⟨rA, rc, rh, [u]⟩ then acc ++ [⟨rA, rc, rh, [u]⟩] else acc) := Lib.hid (by rw [take_snoc hr, acceptL_snoc, ← HAC.out])
      have HCR : Hid (∀ (p : Nat) (q : RowV), acc[p]? = some q → ∀ w', Below wa.heap.size wa w' → Calls Tryd.prog 16 #[.slice q.A q.us.length q.c, .slice rA 1 rc, .bool false] w' (ColP (collV q.us [u]) w')) := Lib.hid (fun p q hq w' hb => by
        have hqm := HAM.out q (List.mem_of_getElem? hq)
        exact implRows_any q.us [u] q.A rA q.c rc (HG.out.len hqm) (by rw [HG.out.len hqm]; omega) (HG.out.conc q hqm) (HG.out.conc _ HRM.out) w' (HLI.out w' (up_below' HBA.out hb) q hqm) (HLR.out.below hb))
      clear hr hlr hrl
      cases hn : isNul u with
      | true =>
        have hacc : accepts acc ⟨rA, rc, rh, [u]⟩ = true := by
          have : rowNul ⟨rA, rc, rh, [u]⟩ = true := hn
          unfold accepts
          rw [this]
          rfl
        have HWO := Lib.hid (without_nul u rA rc wa HLR.out hn)
        rw [hacc] at e0 HA1
        replace e0 : wa.cell? ⟨g, k * 3, none⟩ = some (.int .i64 0) := e0
        clear hacc hn
        go_wp2_with (go_at_call 15; refine HWO.out.mono ?_; rintro y w5 ⟨rfl, hb5⟩; have HB5 := Lib.hid hb5; clear hb5)
        go_loopw [10, 62] (fun th j wi => ∃ (p : Nat) (tb : Bool), p ≤ na ∧ j = .int .i64 p ∧ th = .bool tb ∧ tb = (acc.take p).any (fun q => collV q.us [u] == 0) ∧ Below w5.heap.size w5 wi) (fun _ j _ => na - (intOf j).toNat)
        case atStart => exact ⟨0, false, by omega, rfl, rfl, rfl, Below.refl _ _⟩
        case round =>
          obtain ⟨p, tb, hp, rfl, rfl, htb, hbi⟩ := hrel
          have HBI := Lib.hid (up_below' HB5.out hbi)
          have HTB := Lib.hid htb
          have hsi := HBI.out.size
          have HBI2 := Lib.hid hbi
          clear htb
          by_cases hlp : p < na
          · obtain ⟨qr, hqr⟩ : ∃ qr, acc[p]? = some qr := ⟨_, List.getElem?_eq_getElem (by rw [← HNA.out]; exact hlp)⟩
            obtain ⟨bd, rfl, hblq, gq⟩ := in_cell (own_below HO.out HBI.out) HNA.out.symm hqr
            have HQR := Lib.hid hqr
            have HC := Lib.hid (fun (z : BW wr) => HCR.out p qr hqr z.w (up_below' HBI.out z.h))
            have HAS := Lib.hid (any_snoc hqr (fun q => collV q.us [u] == 0))
            have hblw : (ad.add (k * 2)).block < wr.heap.size := Nat.lt_of_lt_of_le hbl HBI.out.size
            have p0 : ∀ z : BW wr, z.w.cell? (bd.add p) = some (.slice qr.A qr.us.length qr.c) := fun z => (z.h.cell hblq).trans gq
            have p1 : ∀ z : BW wr, z.w.cell? (ad.add (k * 2)) = some (.slice rA 1 rc) := fun z => (z.h.cell hblw).trans ((HBI.out.cell hbl).trans h0)
            clear hqr gq hbi
            obtain ⟨cc, hcc⟩ : ∃ cc, cc = collV qr.us [u] := ⟨_, rfl⟩
            rw [← hcc] at HC HAS
            have HCC := Lib.hid hcc
            clear hcc
            cases tb with
            | true =>
              go_wp2
              refine wp_region_bw (by kernel_rfl) (by kernel_rfl) ?_
              repeat (go_big_quiet_step ((first | fail)))
              refine wpQuiet_nil ?_
              intro _ hw'
              obtain ⟨pq, hw''⟩ := hw'
              subst hw''
              go_wp2
              exact ⟨⟨p + 1, true, by omega, by push_cast; rfl, rfl, by rw [HAS.out, ← HTB.out]; rfl, up_below' HBI2.out pq.h⟩, by simp [intOf]; omega⟩
            | false =>
              cases hz : (cc == 0) with
              | true =>
                obtain rfl : cc = 0 := by simpa using hz
                go_wp2
                refine wp_region_bw (by kernel_rfl) (by kernel_rfl) ?_
                repeat (go_big_quiet_step ((go_at_call 16; exact bw_of (HC.out _))))
                refine wpQuiet_nil ?_
                intro _ hw'
                obtain ⟨pq, hw''⟩ := hw'
                subst hw''
                go_wp2
                exact ⟨⟨p + 1, true, by omega, by push_cast; rfl, rfl, by rw [HAS.out, ← HTB.out]; rfl, up_below' HBI2.out pq.h⟩, by simp [intOf]; omega⟩
              | false =>
                have HZ0 := Lib.hid hz
                go_wp2
                refine wp_region_bw (by kernel_rfl) (by kernel_rfl) ?_
                repeat (go_big_quiet_step ((go_at_call 16; exact bw_of (HC.out _))))
                refine wpQuiet_nil ?_
                intro _ hw'
                obtain ⟨pq, hw''⟩ := hw'
                subst hw''
                go_wp2
                exact ⟨⟨p + 1, false, by omega, by push_cast; rfl, rfl, by rw [HAS.out, ← HTB.out, HZ0.out]; rfl, up_below' HBI2.out pq.h⟩, by simp [intOf]; omega⟩
          · have hpe : p = na := by omega
            have hta : acc.take p = acc := List.take_of_length_le (by rw [hpe, HNA.out]; exact Nat.le_refl _)
            have HTA : Hid (tb = acc.any (fun q => collV q.us [u] == 0)) := Lib.hid (by rw [HTB.out, hta])
            have HOI := Lib.hid (own_below HO.out HBI.out)
            have HB4I := Lib.hid (up_below' HB.out HBI.out)
            have hs4 := HB4I.out.size
            have f0 := (HBI.out.cell (p := ⟨g, k * 3, none⟩) hga).trans e0
            have r0 := (HBI.out.cell hbl).trans h0
            have hblw : (ad.add (k * 2)).block < wr.heap.size := Nat.lt_of_lt_of_le hbl HBI.out.size
            clear hta e0
            go_wp2_with (first
              | (at_builtin
                 refine wpList_append_any _ rfl (.tmp 114) (.tmp 120) _ rfl w4.heap.size 25 j0 _ 1 24 Tryd.underlying46 hj hy0 hy1 hy2 rfl (by omega) _ na (flat inCells acc) rfl
                   (HOI.out.alloc _) (wr.heap.size + 1) (some ⟨wr.heap.size, 0, none⟩) 1 1 [.slice rA 1 rc] rfl (reads_new _ _ _) (fun v hv => by simp at hv; subst hv; rfl) (by simp only [maxLen]; omega) (by omega) (by simp; omega) ?_
                 intro v6 w6 hown6 hg6 _
                 have HO6 := Lib.hid hown6; have HG6 := Lib.hid hg6; clear hown6 hg6))
            refine ⟨⟨k + 1, by omega, by push_cast; rfl, ?_, ?_⟩, by simp [intOf]; omega⟩
            · rw [HA1.out, if_pos (by decide), List.length_append, flat_append, ← HNA.out]
              simpa [flat, inCells] using HO6.out
            · exact HB4I.out.trans ((((Chg.refl (fun z => Value.ownBlock _ = some z) wr).alloc _).next (Chg.of_grown HG6.out) (fun z _ h => h.symm)).below hs4 (fun z hz => own_ge HOI.out hz))
      | false =>
        have hacc := accepts_val HG.out HRM.out HAM.out (show rowNul ⟨rA, rc, rh, [u]⟩ = false from hn)
        have HWO := Lib.hid (without_val u rA rc wa HLR.out hn)
        clear hn
        cases hth : thereB acc ⟨rA, rc, rh, [u]⟩ with
        | false =>
          rw [hth] at hacc
          rw [hacc] at e0 HA1
          replace e0 : wa.cell? ⟨g, k * 3, none⟩ = some (.int .i64 0) := e0
          have HTH := Lib.hid hth
          clear hacc hth
          go_wp2_with (go_at_call 15; refine HWO.out.mono ?_; rintro y w5 ⟨⟨A5, c5, rfl⟩, hb5⟩; have HB5 := Lib.hid hb5; clear hb5)
          go_loopw [10, 62] (fun th j wi => ∃ (p : Nat) (tb : Bool), p ≤ na ∧ j = .int .i64 p ∧ th = .bool tb ∧ tb = (acc.take p).any (fun q => collV q.us [u] == 0) ∧ Below w5.heap.size w5 wi) (fun _ j _ => na - (intOf j).toNat)
          case atStart => exact ⟨0, false, by omega, rfl, rfl, rfl, Below.refl _ _⟩
          case round =>
            obtain ⟨p, tb, hp, rfl, rfl, htb, hbi⟩ := hrel
            have HBI := Lib.hid (up_below' HB5.out hbi)
            have HTB := Lib.hid htb
            have hsi := HBI.out.size
            have HBI2 := Lib.hid hbi
            clear htb
            by_cases hlp : p < na
            · obtain ⟨qr, hqr⟩ : ∃ qr, acc[p]? = some qr := ⟨_, List.getElem?_eq_getElem (by rw [← HNA.out]; exact hlp)⟩
              obtain ⟨bd, rfl, hblq, gq⟩ := in_cell (own_below HO.out HBI.out) HNA.out.symm hqr
              have HQR := Lib.hid hqr
              have HC := Lib.hid (fun (z : BW wr) => HCR.out p qr hqr z.w (up_below' HBI.out z.h))
              have HAS := Lib.hid (any_snoc hqr (fun q => collV q.us [u] == 0))
              have hblw : (ad.add (k * 2)).block < wr.heap.size := Nat.lt_of_lt_of_le hbl HBI.out.size
              have p0 : ∀ z : BW wr, z.w.cell? (bd.add p) = some (.slice qr.A qr.us.length qr.c) := fun z => (z.h.cell hblq).trans gq
              have p1 : ∀ z : BW wr, z.w.cell? (ad.add (k * 2)) = some (.slice rA 1 rc) := fun z => (z.h.cell hblw).trans ((HBI.out.cell hbl).trans h0)
              clear hqr gq hbi
              obtain ⟨cc, hcc⟩ : ∃ cc, cc = collV qr.us [u] := ⟨_, rfl⟩
              rw [← hcc] at HC HAS
              have HCC := Lib.hid hcc
              clear hcc
              cases tb with
              | true =>
                go_wp2
                refine wp_region_bw (by kernel_rfl) (by kernel_rfl) ?_
                repeat (go_big_quiet_step ((first | fail)))
                refine wpQuiet_nil ?_
                intro _ hw'
                obtain ⟨pq, hw''⟩ := hw'
                subst hw''
                go_wp2
                exact ⟨⟨p + 1, true, by omega, by push_cast; rfl, rfl, by rw [HAS.out, ← HTB.out]; rfl, up_below' HBI2.out pq.h⟩, by simp [intOf]; omega⟩
              | false =>
                cases hz : (cc == 0) with
                | true =>
                  obtain rfl : cc = 0 := by simpa using hz
                  go_wp2
                  refine wp_region_bw (by kernel_rfl) (by kernel_rfl) ?_
                  repeat (go_big_quiet_step ((go_at_call 16; exact bw_of (HC.out _))))
                  refine wpQuiet_nil ?_
                  intro _ hw'
                  obtain ⟨pq, hw''⟩ := hw'
                  subst hw''
                  go_wp2
                  exact ⟨⟨p + 1, true, by omega, by push_cast; rfl, rfl, by rw [HAS.out, ← HTB.out]; rfl, up_below' HBI2.out pq.h⟩, by simp [intOf]; omega⟩
                | false =>
                  have HZ0 := Lib.hid hz
                  go_wp2
                  refine wp_region_bw (by kernel_rfl) (by kernel_rfl) ?_
                  repeat (go_big_quiet_step ((go_at_call 16; exact bw_of (HC.out _))))
                  refine wpQuiet_nil ?_
                  intro _ hw'
                  obtain ⟨pq, hw''⟩ := hw'
                  subst hw''
                  go_wp2
                  exact ⟨⟨p + 1, false, by omega, by push_cast; rfl, rfl, by rw [HAS.out, ← HTB.out, HZ0.out]; rfl, up_below' HBI2.out pq.h⟩, by simp [intOf]; omega⟩
            · have hpe : p = na := by omega
              have hta : acc.take p = acc := List.take_of_length_le (by rw [hpe, HNA.out]; exact Nat.le_refl _)
              have HTA : Hid (tb = acc.any (fun q => collV q.us [u] == 0)) := Lib.hid (by rw [HTB.out, hta])
              have HOI := Lib.hid (own_below HO.out HBI.out)
              have HB4I := Lib.hid (up_below' HB.out HBI.out)
              have hs4 := HB4I.out.size
              have f0 := (HBI.out.cell (p := ⟨g, k * 3, none⟩) hga).trans e0
              have r0 := (HBI.out.cell hbl).trans h0
              have hblw : (ad.add (k * 2)).block < wr.heap.size := Nat.lt_of_lt_of_le hbl HBI.out.size
              clear hta e0
              obtain rfl : tb = false := by rw [HTA.out]; exact HTH.out
              go_wp2_with (first
                | (at_builtin
                   refine wpList_append_any _ rfl (.tmp 114) (.tmp 120) _ rfl w4.heap.size 25 j0 _ 1 24 Tryd.underlying46 hj hy0 hy1 hy2 rfl (by omega) _ na (flat inCells acc) rfl
                     (HOI.out.alloc _) (wr.heap.size + 1) (some ⟨wr.heap.size, 0, none⟩) 1 1 [.slice rA 1 rc] rfl (reads_new _ _ _) (fun v hv => by simp at hv; subst hv; rfl) (by simp only [maxLen]; omega) (by omega) (by simp; omega) ?_
                   intro v6 w6 hown6 hg6 _
                   have HO6 := Lib.hid hown6; have HG6 := Lib.hid hg6; clear hown6 hg6))
              refine ⟨⟨k + 1, by omega, by push_cast; rfl, ?_, ?_⟩, by simp [intOf]; omega⟩
              · rw [HA1.out, if_pos (by decide), List.length_append, flat_append, ← HNA.out]
                simpa [flat, inCells] using HO6.out
              · exact HB4I.out.trans ((((Chg.refl (fun z => Value.ownBlock _ = some z) wr).alloc _).next (Chg.of_grown HG6.out) (fun z _ h => h.symm)).below hs4 (fun z hz => own_ge HOI.out hz))
        | true =>
          rw [hth] at hacc
          rw [hacc] at e0 HA1
          replace e0 : wa.cell? ⟨g, k * 3, none⟩ = some (.int .i64 2) := e0
          have HTH := Lib.hid hth
          clear hacc hth
          go_wp2_with (go_at_call 15; refine HWO.out.mono ?_; rintro y w5 ⟨⟨A5, c5, rfl⟩, hb5⟩; have HB5 := Lib.hid hb5; clear hb5)
          go_loopw [10, 62] (fun th j wi => ∃ (p : Nat) (tb : Bool), p ≤ na ∧ j = .int .i64 p ∧ th = .bool tb ∧ tb = (acc.take p).any (fun q => collV q.us [u] == 0) ∧ Below w5.heap.size w5 wi) (fun _ j _ => na - (intOf j).toNat)
          case atStart => exact ⟨0, false, by omega, rfl, rfl, rfl, Below.refl _ _⟩
          case round =>
            obtain ⟨p, tb, hp, rfl, rfl, htb, hbi⟩ := hrel
            have HBI := Lib.hid (up_below' HB5.out hbi)
            have HTB := Lib.hid htb
            have hsi := HBI.out.size
            have HBI2 := Lib.hid hbi
            clear htb
            by_cases hlp : p < na
            · obtain ⟨qr, hqr⟩ : ∃ qr, acc[p]? = some qr := ⟨_, List.getElem?_eq_getElem (by rw [← HNA.out]; exact hlp)⟩
              obtain ⟨bd, rfl, hblq, gq⟩ := in_cell (own_below HO.out HBI.out) HNA.out.symm hqr
              have HQR := Lib.hid hqr
              have HC := Lib.hid (fun (z : BW wr) => HCR.out p qr hqr z.w (up_below' HBI.out z.h))
              have HAS := Lib.hid (any_snoc hqr (fun q => collV q.us [u] == 0))
              have hblw : (ad.add (k * 2)).block < wr.heap.size := Nat.lt_of_lt_of_le hbl HBI.out.size
              have p0 : ∀ z : BW wr, z.w.cell? (bd.add p) = some (.slice qr.A qr.us.length qr.c) := fun z => (z.h.cell hblq).trans gq
              have p1 : ∀ z : BW wr, z.w.cell? (ad.add (k * 2)) = some (.slice rA 1 rc) := fun z => (z.h.cell hblw).trans ((HBI.out.cell hbl).trans h0)
              clear hqr gq hbi
              obtain ⟨cc, hcc⟩ : ∃ cc, cc = collV qr.us [u] := ⟨_, rfl⟩
              rw [← hcc] at HC HAS
              have HCC := Lib.hid hcc
              clear hcc
              cases tb with
              | true =>
                go_wp2
                refine wp_region_bw (by kernel_rfl) (by kernel_rfl) ?_
                repeat (go_big_quiet_step ((first | fail)))
                refine wpQuiet_nil ?_
                intro _ hw'
                obtain ⟨pq, hw''⟩ := hw'
                subst hw''
                go_wp2
                exact ⟨⟨p + 1, true, by omega, by push_cast; rfl, rfl, by rw [HAS.out, ← HTB.out]; rfl, up_below' HBI2.out pq.h⟩, by simp [intOf]; omega⟩
              | false =>
                cases hz : (cc == 0) with
                | true =>
                  obtain rfl : cc = 0 := by simpa using hz
                  go_wp2
                  refine wp_region_bw (by kernel_rfl) (by kernel_rfl) ?_
                  repeat (go_big_quiet_step ((go_at_call 16; exact bw_of (HC.out _))))
                  refine wpQuiet_nil ?_
                  intro _ hw'
                  obtain ⟨pq, hw''⟩ := hw'
                  subst hw''
                  go_wp2
                  exact ⟨⟨p + 1, true, by omega, by push_cast; rfl, rfl, by rw [HAS.out, ← HTB.out]; rfl, up_below' HBI2.out pq.h⟩, by simp [intOf]; omega⟩
                | false =>
                  have HZ0 := Lib.hid hz
                  go_wp2
                  refine wp_region_bw (by kernel_rfl) (by kernel_rfl) ?_
                  repeat (go_big_quiet_step ((go_at_call 16; exact bw_of (HC.out _))))
                  refine wpQuiet_nil ?_
                  intro _ hw'
                  obtain ⟨pq, hw''⟩ := hw'
                  subst hw''
                  go_wp2
                  exact ⟨⟨p + 1, false, by omega, by push_cast; rfl, rfl, by rw [HAS.out, ← HTB.out, HZ0.out]; rfl, up_below' HBI2.out pq.h⟩, by simp [intOf]; omega⟩
            · have hpe : p = na := by omega
              have hta : acc.take p = acc := List.take_of_length_le (by rw [hpe, HNA.out]; exact Nat.le_refl _)
              have HTA : Hid (tb = acc.any (fun q => collV q.us [u] == 0)) := Lib.hid (by rw [HTB.out, hta])
              have HOI := Lib.hid (own_below HO.out HBI.out)
              have HB4I := Lib.hid (up_below' HB.out HBI.out)
              have hs4 := HB4I.out.size
              have f0 := (HBI.out.cell (p := ⟨g, k * 3, none⟩) hga).trans e0
              have r0 := (HBI.out.cell hbl).trans h0
              have hblw : (ad.add (k * 2)).block < wr.heap.size := Nat.lt_of_lt_of_le hbl HBI.out.size
              clear hta e0
              obtain rfl : tb = true := by rw [HTA.out]; exact HTH.out
              go_wp2
              refine ⟨⟨k + 1, by omega, by push_cast; rfl, ?_, HB4I.out⟩, by simp [intOf]; omega⟩
              rw [HA1.out, if_neg (by decide), ← HNA.out]
              exact HOI.out
    · have hke : k = len := by omega
      subst hke
      have hmm : mm = na := by rw [HRD.out.cnt, HNA.out, HAC.out, List.take_of_length_le (by rw [← HN.out]; exact Nat.le_refl _)]
      subst hmm
      have hrow := HRD.out.found.at_
      have HRW := Lib.hid hrow.1
      have HRL := Lib.hid hrow.2
      have a0 := (HB.out.cell (p := ⟨g, k * 3, none⟩) hgl).trans HRD.out.a0
      have a1 := (HB.out.cell (p := ⟨g, k * 3 + 1, none⟩) hgl).trans HRD.out.a1
      have a2 := (HB.out.cell (p := ⟨g, k * 3 + 2, none⟩) hgl).trans HRD.out.a2
      clear hrow
      go_wp2
      obtain ⟨wb, hwb⟩ : ∃ wb, wb = wa.alloc (.cells #[.int .i64 0, .bool false, .slice A1 mm c1] 52) := ⟨_, rfl⟩
      rw [← hwb]
      have HX : Hid (wb.heap[wa.heap.size]? = some (.cells #[.int .i64 0, .bool false, .slice A1 mm c1] 52 (0, 0))) := Lib.hid (by rw [hwb]; exact heap_new wa _)
      have HBB : Hid (Below wa.heap.size wa wb) := Lib.hid (by rw [hwb]; exact (Below.refl _ _).alloc (Nat.le_refl _) _)
      have hxl := lt_of_heap HX.out
      clear hwb a0 a1 a2
      go_loopw [14] (fun i wr => ∃ k : Nat, 1 ≤ k ∧ (k ≤ mm ∨ k = 1) ∧ i = .int .i64 k ∧ Below wb.heap.size wb wr) (fun i _ => mm + 1 - (intOf i).toNat)
      case atStart => exact ⟨1, Nat.le_refl _, .inr rfl, rfl, Below.refl _ _⟩
      case round =>
        obtain ⟨i, hi1, hi2, rfl, hbi⟩ := hrel
        have HBI := Lib.hid hbi
        have HBT := Lib.hid (up_below' (up_below' HBA.out HBB.out) hbi)
        have HB4T := Lib.hid (up_below' (up_below' HB.out HBB.out) hbi)
        have x2 : wr.cell? ⟨wa.heap.size, 2, none⟩ = some (.slice A1 mm c1) := cell_of_heap (heap_below HX.out hbi) 2
        have hxr : wa.heap.size < wr.heap.size := Nat.lt_of_lt_of_le hxl hbi.size
        clear hbi
        by_cases hlt2 : i < mm
        · obtain ⟨j, hji⟩ : ∃ j : Nat, i = j + 1 := ⟨i - 1, by omega⟩
          obtain ⟨p, hp⟩ : ∃ p, rs[j]? = some p := ⟨_, List.getElem?_eq_getElem (by rw [← HRL.out]; omega)⟩
          obtain ⟨z, hz⟩ : ∃ z, rs[i]? = some z := ⟨_, List.getElem?_eq_getElem (by rw [← HRL.out]; omega)⟩
          have HNX := Lib.hid (uni_next HG.out HRD.out.srt HRD.out.keys HRD.out.out HRD.out.found hp (by rw [← hji]; exact hz))
          obtain ⟨⟨ad1, rfl, hbp, gp, _⟩, hlp⟩ := (HRW.out.below HB4T.out) j p hp
          obtain ⟨⟨ad2, had, hbz, gz, _⟩, hlz⟩ := (HRW.out.below HB4T.out) i z hz
          obtain rfl := Option.some.inj had
          have HLP := Lib.hid hlp
          have HLZ := Lib.hid hlz
          have hj1 : (i : Int) - 1 = (j : Int) := by omega
          have hj2 : IntKind.i64.wrap (j : Int) = (j : Int) := IntWalk.i64_in _ (by omega)
          have hi3 : IntKind.i64.wrap ((i : Int) + 1) = (i : Int) + 1 := IntWalk.i64_in _ (by omega)
          have hjm : j < mm := by omega
          have q2 : ∀ y : BW wr, y.w.cell? ⟨wa.heap.size, 2, none⟩ = some (.slice (some ad1) mm c1) := fun y => (y.h.cell (p := ⟨wa.heap.size, 2, none⟩) hxr).trans x2
          have HJI := Lib.hid hji
          clear hp hz hlp hlz had hji
          rcases HNX.out with h0 | ⟨h1, h2, hc1, hc2, hlt3⟩
          · rw [h0] at gp
            have p0 : ∀ y : BW wr, y.w.cell? (ad1.add (j * 2)) = some (.slice p.A 0 p.c) := fun y => (y.h.cell hbp).trans gp
            have p1 : ∀ y : BW wr, y.w.cell? (ad1.add (i * 2)) = some (.slice z.A z.us.length z.c) := fun y => (y.h.cell hbz).trans gz
            clear gp gz h0
            go_wp2
            refine wp_region_bw (by kernel_rfl) (by kernel_rfl) ?_
            repeat (go_big_quiet_step ((first | fail)))
            refine wpQuiet_nil ?_
            intro _ hw'
            obtain ⟨pq, hw''⟩ := hw'
            subst hw''
            go_wp2
            exact ⟨⟨i + 1, by omega, .inl (by omega), by push_cast; rfl, up_below' HBI.out pq.h⟩, by simp [intOf]; omega⟩
          · have HC : Hid (∀ y : BW wr, ∀ w', Below y.w.heap.size y.w w' → Calls Tryd.prog 16 #[.slice p.A 1 p.c, .slice z.A 1 z.c, .bool false] w' (ColP (collV p.us z.us) w')) := Lib.hid (fun y w' hb => by
              have h := implRows_any p.us z.us p.A z.A p.c z.c (h1.trans h2.symm) (by omega) hc1 hc2 w' ((HLP.out.below y.h).below hb) ((HLZ.out.below y.h).below hb)
              rw [h1, h2] at h
              exact h)
            rw [h1] at gp
            rw [h2] at gz
            have p0 : ∀ y : BW wr, y.w.cell? (ad1.add (j * 2)) = some (.slice p.A 1 p.c) := fun y => (y.h.cell hbp).trans gp
            have p1 : ∀ y : BW wr, y.w.cell? (ad1.add (i * 2)) = some (.slice z.A 1 z.c) := fun y => (y.h.cell hbz).trans gz
            obtain ⟨cc, hcc⟩ : ∃ cc, cc = collV p.us z.us := ⟨_, rfl⟩
            rw [← hcc] at HC hlt3
            have hlt4 : ¬ 0 ≤ cc := by omega
            clear gp gz h1 h2 hc1 hc2 hcc
            go_wp2
            refine wp_region_bw (by kernel_rfl) (by kernel_rfl) ?_
            repeat (go_big_quiet_step ((first | fail)))
            refine wpQuiet_nil ?_
            intro _ hw'
            obtain ⟨pq, hw''⟩ := hw'
            subst hw''
            go_wp2_with (go_at_call 16; refine (HC.out pq _ (Below.refl _ _)).mono ?_; rintro y w7 ⟨rfl, hb7⟩)
            exact ⟨⟨i + 1, by omega, .inl (by omega), by push_cast; rfl, up_below' (up_below' HBI.out pq.h) hb7⟩, by simp [intOf]; omega⟩
        · go_wp2_with (go_at_call 13; refine (keeps_any _ (HE.out.below HBT.out)).mono ?_; rintro e w8 ⟨rfl, hb8⟩)
          go_ret
          exact ⟨rfl, up_below' HBT.out hb8⟩

theorem lawIxu_walk {w : World} (rows : List RowV) (A : Option Addr) (c : Nat) (hl : RowsAt w A rows) (hr : ∀ r ∈ rows, RowRng r) (n : Int) {E : Value} (hE : HasEof w E) :
    Calls Tryd.prog 4 #[.slice A rows.length c, .int .i64 n] w fun e w' => e = .returned (.bool true) ∧ Below w.heap.size w w' := by
  have hz := zzFits17_any rows A c w hl
  cases h : fits17B rows with
  | false =>
    rw [h] at hz
    exact lawIxu_long rows A c n w (Lib.hid hz)
  | true =>
    rw [h] at hz
    exact lawIxu_fits rows A c n w hl hr hE (Lib.hid hz)

end Go.Proofs.YtffgkocokkhahaaDoor

/- An argument of type impl.Value, opened to its five fields. -/
namespace Go.Proofs.YtffgkocokkhahaaDoor
open Go.ChangeShapes Go.WideShapes Go.ChangeAt Go.RowKit Go.Deep
set_option maxRecDepth 100000

theorem own : ownKnob Tryd.prog.godebug = none := by kernel_rfl
theorem laidOut : laidOutB Tryd.prog = true := by kernel_rfl
theorem cellsV : Tryd.prog.cellsOf 58 = 5 := by kernel_rfl
theorem cellsS : Tryd.prog.cellsOf 9 = 1 := by kernel_rfl
theorem cellsI : Tryd.prog.cellsOf 2 = 1 := by kernel_rfl
theorem cellsU : Tryd.prog.cellsOf 55 = 1 := by kernel_rfl
theorem cellsF : Tryd.prog.cellsOf 56 = 1 := by kernel_rfl

section
variable {H : Type} {enc : TypeId × Value → H} {P : Program} {w : World} {base : Nat} {spare : Nat → Bool} {held : Bool}

theorem trod_float {t : TypeId} {k : FloatKind} {fuel : Nat} {cs : List Value} {x : DataW H × List MemPlace} (ht : P.underlying t = some (.float k)) (h : DataW.trod enc P w base spare held fuel t cs = some x) :
    ∃ b, cs = [.float k b] ∧ (Lit.float k b).wf = true := by
  cases fuel with
  | zero => simp [DataW.trod] at h
  | succ n =>
    unfold DataW.trod at h
    rw [ht] at h
    split at h <;> simp_all

/-- The five fields of a value that came in. -/
structure IsVal (v : Value) (k : ByteArray) (n u : Int) (f : Nat) (s : ByteArray) : Prop where
  eq : v = .agg #[.string k, .int .i64 n, .int .u64 u, .float .f64 f, .string s]
  rng : Rng n u f
  kl : k.size ≤ maxLen
  sl : s.size ≤ maxLen

theorem isVal_of {c0 c1 c2 c3 c4 : Value} {y0 y1 y2 y3 y4 : DataW H × List MemPlace} {n0 n1 n2 n3 n4 : Nat}
    (h0 : DataW.trod enc Tryd.prog w base spare held n0 9 [c0] = some y0) (h1 : DataW.trod enc Tryd.prog w base spare held n1 2 [c1] = some y1)
    (h2 : DataW.trod enc Tryd.prog w base spare held n2 55 [c2] = some y2) (h3 : DataW.trod enc Tryd.prog w base spare held n3 56 [c3] = some y3)
    (h4 : DataW.trod enc Tryd.prog w base spare held n4 9 [c4] = some y4) : ∃ k n u f s, IsVal (.agg #[c0, c1, c2, c3, c4]) k n u f s := by
  obtain ⟨k, e0, _, hk⟩ := DataW.trod_string Tryd.underlying9 h0
  obtain ⟨n, e1, _, hn⟩ := DataW.trod_int Tryd.underlying2 h1
  obtain ⟨u, e2, _, hu⟩ := DataW.trod_int Tryd.underlying55 h2
  obtain ⟨f, e3, hf⟩ := trod_float Tryd.underlying56 h3
  obtain ⟨s, e4, _, hs⟩ := DataW.trod_string Tryd.underlying9 h4
  simp only [List.cons.injEq, and_true] at e0 e1 e2 e3 e4
  subst e0 e1 e2 e3 e4
  refine ⟨k, n, u, f, s, rfl, ?_, hk, hs⟩
  simp only [Lit.wf, Bool.and_eq_true, decide_eq_true_eq, IntKind.min, IntKind.max, IntKind.signed, IntKind.bits, if_true, Bool.false_eq_true, if_false, Nat.reduceSub, Int.reducePow, Int.reduceSub, Int.reduceNeg, Nat.reducePow] at hn hu hf
  exact ⟨hn.1, hn.2, hu.1, hu.2, hf⟩

theorem open_value {r : Reach} {b0 : Nat} {v : Value} {d : DataW H} {p : List MemPlace} (hv : Value.okWide Tryd.prog w r b0 58 v) (h : DataW.Trod enc Tryd.prog w base spare held 58 v d p) :
    ∃ k n u f s, IsVal v k n u f s := by
  obtain ⟨cs, rfl, hsz⟩ := okWide_struct Tryd.underlying58 hv
  obtain ⟨l⟩ := cs
  match l, hsz.trans cellsV with
  | [c0, c1, c2, c3, c4], _ =>
    obtain ⟨fuel, hf⟩ := h
    obtain ⟨xs, n, _, _, _, hlen, hg⟩ := DataW.trod_struct Tryd.underlying58 hf
    match xs, hlen with
    | [y0, y1, y2, y3, y4], _ =>
      exact isVal_of (y0 := y0) (y1 := y1) (y2 := y2) (y3 := y3) (y4 := y4) (by simpa [Value.cells, cellsS] using hg 0 _ rfl) (by simpa [Value.cells, cellsI] using hg 1 _ rfl)
        (by simpa [Value.cells, cellsU] using hg 2 _ rfl) (by simpa [Value.cells, cellsF] using hg 3 _ rfl) (by simpa [Value.cells, cellsS] using hg 4 _ rfl)
end

end Go.Proofs.YtffgkocokkhahaaDoor
