/-
  (*mem).Commit of a level in a level.
-/
import Derived.Test.YtffgkocokkhahaaGreatDoorP03

/- (*mem).Commit of a level in a level. -/
namespace Go.Proofs.YtffgkocokkhahaaGreatDoor
open Go.RowKit

variable {D M : Nat → Prop} {w W : World} {m : Nat} {s : MSt RV} {us vs : List (Un RV)} {ls : List (List (Un RV))}

set_option maxRecDepth 100000 in
set_option maxHeartbeats 1600000 in
theorem commit_two (h : MemX m s (us :: vs :: ls) M D w) (hu : us.length ≤ 1000) (hv : vs.length ≤ 1000) (hls : ls.length ≤ 1000) :
    Calls Tryz.prog 52 #[.pointer (some ⟨m, 0, none⟩)] w (DoneX m s ((us ++ vs) :: ls) M D w) := by
  obtain ⟨r, dv, rv, p, L, S, hT, hM, hoff, hD⟩ := h.top
  have hlev := hT.lev
  cases hlev with
  | @cons r2 L2 p2 _ _ S2 hr2 ho2 hu2 hl2 a2 b2 =>
  obtain ⟨A4, c4', rfl⟩ := own_form ho2
  obtain ⟨A3, c3', rfl⟩ := own_form hT.list
  obtain ⟨k, hkk⟩ : ∃ k, k = us.length := ⟨_, rfl⟩
  obtain ⟨k2, hkk2⟩ : ∃ k2, k2 = vs.length := ⟨_, rfl⟩
  have hkk3 : k2 + k ≤ 2000 := by rw [hkk, hkk2]; exact Nat.add_le_add hv hu
  have hmx : k2 + k ≤ maxLen := Nat.le_trans hkk3 (by decide)
  have hby : (k2 + k) * 40 ≤ 140737488355328 := Nat.le_trans (Nat.mul_le_mul_right 40 hkk3) (by decide)
  obtain ⟨t1, ht1⟩ : ∃ t1, t1 = ls.length + 1 := ⟨_, rfl⟩
  obtain ⟨t2, ht2⟩ : ∃ t2, t2 = ls.length + 2 := ⟨_, rfl⟩
  obtain ⟨i1, hi1, hy0, hy1, hy2⟩ := info_parts info_undo
  have AP := hT.apart
  have hmr : m ≠ r := AP.mr
  have hrm : ¬ r = m := fun e => hmr e.symm
  have hm2 : ¬ m = r2 := fun e => AP.sm (.inl e)
  have h2m : ¬ r2 = m := fun e => hm2 e.symm
  have hr2r : ¬ r = r2 := fun e => AP.sr (.inl e)
  have c3 : w.cell? ⟨m, 3, none⟩ = some (.int .i64 t2) := by rw [ht2]; exact cell_of_heap hT.mem 3
  have c4 : w.cell? ⟨m, 4, none⟩ = some (.pointer (some ⟨r, 0, none⟩)) := cell_of_heap hT.mem 4
  have f3 : w.frozen? ⟨m, 3, none⟩ = false := free_of_heap hT.mem 3
  have f4 : w.frozen? ⟨m, 4, none⟩ = false := free_of_heap hT.mem 4
  have r1 : w.cell? ⟨r, 1, none⟩ = some (.pointer (some ⟨r2, 0, none⟩)) := cell_of_heap hT.roll 1
  have lr := lt_of_heap hT.roll
  have lr2 := lt_of_heap hr2
  have lm := lt_of_heap hT.mem
  have hw2 : (t2 : Int) - 1 = t1 := by omega
  have hw1 : IntKind.i64.wrap ((t2 : Int) - 1) = t1 := by rw [hw2]; exact IntWalk.i64_in _ (by omega)
  have hw3 : wrap64 (t1 : Int) = t1 := wrap64_of (by omega) (by omega)
  have hne : ((t2 : Int) == 0) = false := by
    have h0 : (t2 : Int) ≠ 0 := by rw [ht2]; exact Int.ofNat_ne_zero.2 (Nat.succ_ne_zero _)
    exact beq_eq_false_iff_ne.2 h0
  have HL0 : Hid (w.ownsRow 0 163 3 (.slice A3 k c3') k (flat Un.cells us.reverse)) := Lib.hid (by rw [hkk]; exact hT.list)
  have HL2 : Hid (w.ownsRow 0 163 3 (.slice A4 k2 c4') k2 (flat Un.cells vs.reverse)) := Lib.hid (by rw [hkk2]; exact ho2)
  have lmA : (Value.slice A3 k c3').ownBlock ≠ some m := own_ne HL0.out hT.mem (by decide)
  have lmB : (Value.slice A4 k2 c4').ownBlock ≠ some m := own_ne HL2.out hT.mem (by decide)
  have lrB : (Value.slice A4 k2 c4').ownBlock ≠ some r2 := own_ne HL2.out hr2 (by decide)
  have HRO : Hid (w.heap[r]? = some (.cells #[.slice A3 k c3', ptr r2, .int .i64 0] 132 (0, 0))) := Lib.hid (by rw [hkk]; exact hT.roll)
  have HR2 : Hid (w.heap[r2]? = some (.cells #[.slice A4 k2 c4', p2, .int .i64 0] 132 (0, 0))) := Lib.hid (by rw [hkk2]; exact hr2)
  have HMO := Lib.hid hT.mem
  have HT := Lib.hid hT
  have HM := Lib.hid hM
  have HF := Lib.hid hoff
  have HD := Lib.hid hD
  have HAP := Lib.hid AP
  have HX := Lib.hid (And.intro hu2 (And.intro hl2 (And.intro a2 b2)))
  have HK := Lib.hid hkk
  have HK2 := Lib.hid hkk2
  have HT1 := Lib.hid ht1
  have ht1n : t1 ≤ 1001 := by rw [ht1]; exact Nat.succ_le_succ hls
  rw [← hkk] at hu
  rw [← hkk2] at hv
  clear hT hM hoff hD AP h hr2 ho2 hu2 hl2 a2 b2 hkk hkk2 ht1 ht2 hls
  go_enter Tryz.func52, Tryz.ntmps52
  go_wp2_with fail
  obtain ⟨wa, hwa⟩ : ∃ wa, wa = (w.setCell ⟨m, 3, none⟩ (.int .i64 t1)).setCell ⟨m, 4, none⟩ (.pointer (some ⟨r2, 0, none⟩)) := ⟨_, rfl⟩
  rw [← hwa]
  have hk : Chg (fun b => b = m) w wa := hwa ▸ Chg.setCell (Chg.setCell (Chg.refl (fun b => b = m) w) (p := ⟨m, _, none⟩) (.inl rfl) _) (p := ⟨m, _, none⟩) (.inl rfl) _
  have HMA : Hid (MemL wa m dv rv (ls.length + 1) (ptr r2)) := Lib.hid (by
    show wa.heap[m]? = _
    rw [hwa, heap_setCell_at, heap_setCell_at, HMO.out, HT1.out]
    rfl)
  have HKA := Lib.hid hk
  have E1 : Hid (wa.heap[r]? = w.heap[r]?) := Lib.hid (hk.block r lr hrm)
  have E2 : Hid (wa.heap[r2]? = w.heap[r2]?) := Lib.hid (hk.block r2 lr2 h2m)
  have HL0A : Hid (wa.ownsRow 0 163 3 (.slice A3 k c3') k (flat Un.cells us.reverse)) := Lib.hid (own_chg HL0.out hk (fun b hb e => lmA (by rw [hb, e])))
  have HL2A : Hid (wa.ownsRow 0 163 3 (.slice A4 k2 c4') k2 (flat Un.cells vs.reverse)) := Lib.hid (own_chg HL2.out hk (fun b hb e => lmB (by rw [hb, e])))
  have a4 : wa.cell? ⟨m, 4, none⟩ = some (.pointer (some ⟨r2, 0, none⟩)) := cell_of_heap HMA.out 4
  have b0 : wa.cell? ⟨r, 0, none⟩ = some (.slice A3 k c3') := (World.cell?_of_block E1.out).trans (cell_of_heap HRO.out 0)
  have b1 : wa.cell? ⟨r2, 0, none⟩ = some (.slice A4 k2 c4') := (World.cell?_of_block E2.out).trans (cell_of_heap HR2.out 0)
  have b2 : wa.frozen? ⟨r2, 0, none⟩ = false := (World.frozen?_of_block E2.out).trans (free_of_heap HR2.out 0)
  have sa := hk.size
  have lma : m < wa.heap.size := Nat.lt_of_lt_of_le lm sa
  have lra : r2 < wa.heap.size := Nat.lt_of_lt_of_le lr2 sa
  have hone : ∀ u ∈ flat Un.cells us.reverse, u.oneCell' = true := fun u hu => by
    unfold flat at hu
    obtain ⟨x, _, hx⟩ := List.mem_flatMap.1 hu
    simp [Un.cells, RV.val] at hx
    rcases hx with rfl | rfl | rfl <;> rfl
  have HONE := Lib.hid hone
  clear hwa hk c3 c4 f3 f4 r1 hone
  go_region_law
    ((refine step_append_any (by rfl) _ _ _ (by rfl) 0 163 i1 _ 3 40 Tryz.underlying130 hi1 hy0 hy1 hy2 rfl (by omega) (.slice A4 k2 c4') k2 (flat Un.cells vs.reverse) (by rfl) (by first | exact HL2A.out.drew | exact HL2A.out)
        wa.heap.size A3 k c3' (flat Un.cells us.reverse) (by rfl) (by first | exact Reads.of_own HL0A.out.drew | exact Reads.of_own HL0A.out) HONE.out
        hmx hby (Nat.zero_le _) ?_; intro v' w3 hown3 hgrow hat
      obtain ⟨A5, c5, rfl⟩ := own_form hown3
      have HG3 : Hid (Chg (fun b => (Value.slice A4 k2 c4').ownBlock = some b) wa w3) := Lib.hid (by first | exact (Chg.of_grown hgrow).mono (fun b _ hb => hb.symm) | exact ((Chg.refl _ wa).drew).trans ((Chg.of_grown hgrow).mono (fun b _ hb => hb.symm)))
      have E3 : Hid (w3.heap[m]? = wa.heap[m]?) := Lib.hid (HG3.out.block m lma (fun e => lmB e))
      have E4 : Hid (w3.heap[r2]? = wa.heap[r2]?) := Lib.hid (HG3.out.block r2 lra (fun e => lrB e))
      have x4 : w3.cell? ⟨m, 4, none⟩ = some (.pointer (some ⟨r2, 0, none⟩)) := (World.cell?_of_block E3.out).trans a4
      have x5 : w3.cell? ⟨r2, 0, none⟩ = some (.slice A4 k2 c4') := (World.cell?_of_block E4.out).trans b1
      have x6 : w3.frozen? ⟨r2, 0, none⟩ = false := (World.frozen?_of_block E4.out).trans b2
      have HO3 := Lib.hid hown3
      have HAT3 : Hid ((Value.slice A5 (k2 + k) c5).ownBlock = (Value.slice A4 k2 c4').ownBlock ∨ (Value.slice A5 (k2 + k) c5).ownBlock = some wa.heap.size) := Lib.hid hat
      clear hown3 hgrow hat))
  all_goals
    go_wp2
    go_ret
    have hk' := HK.out
    have hk2' := HK2.out
    subst hk'
    subst hk2'
    exact ⟨rfl, commit_fin HT.out HM.out HF.out HD.out HR2.out HL2.out HX.out.1 HX.out.2.1 HX.out.2.2.1 HX.out.2.2.2 HKA.out HMA.out HG3.out HO3.out (fun b hb => HAT3.out.elim (fun h => .inl (h ▸ hb)) (fun h => .inr (by rw [h] at hb; injection hb with hb; omega)))⟩

end Go.Proofs.YtffgkocokkhahaaGreatDoor
