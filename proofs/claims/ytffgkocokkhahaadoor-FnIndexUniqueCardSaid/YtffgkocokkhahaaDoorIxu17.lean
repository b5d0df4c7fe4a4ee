/-
  A new index of a new memory store: BeginTransaction, clone of nothing, Create of the first row, Commit, newMemStorage, newMemIndex, ZZNewIndex. || (*mem).Create of a new store's first row. || A new memory store; a new index of it: newMemStorage, xtreeNew, newMemIndex, ZZNewIndex.
-/
import Derived.Test.YtffgkocokkhahaaDoorIxu16
import Derived.Test.YtffgkocokkhahaaDoorIxu05

/- A new index of a new memory store: BeginTransaction, clone of nothing, Create of the first row, Commit, newMemStorage, newMemIndex, ZZNewIndex. -/
namespace Go.Proofs.YtffgkocokkhahaaDoor
open Go.RowKit

/-- A memory store's own memory. -/
def MemC (w : World) (m : Nat) (d : Value) (id : Int) (rec : Value) (tnl : Int) (roll : Value) : Prop :=
  ∃ tail, w.heap[m]? = some (.cells (d :: .int .i64 id :: rec :: .int .i64 tnl :: roll :: tail).toArray 167 (0, 0))

theorem MemC.cell {w : World} {m : Nat} {d rec roll : Value} {id tnl : Int} (h : MemC w m d id rec tnl roll) :
    w.cell? ⟨m, 0, none⟩ = some d ∧ w.cell? ⟨m, 1, none⟩ = some (.int .i64 id) ∧ w.cell? ⟨m, 2, none⟩ = some rec ∧ w.cell? ⟨m, 3, none⟩ = some (.int .i64 tnl) ∧ w.cell? ⟨m, 4, none⟩ = some roll ∧
    (∀ o, w.frozen? ⟨m, o, none⟩ = false) ∧ m < w.heap.size := by
  obtain ⟨tail, h⟩ := h
  exact ⟨by rw [cell_of_heap h]; rfl, by rw [cell_of_heap h]; rfl, by rw [cell_of_heap h]; rfl, by rw [cell_of_heap h]; rfl, by rw [cell_of_heap h]; rfl, free_of_heap h, lt_of_heap h⟩

theorem MemC.chg {S : Nat → Prop} {w w' : World} {m : Nat} {d rec roll : Value} {id tnl : Int} (h : MemC w m d id rec tnl roll) (hc : Chg S w w') (hn : ¬ S m) : MemC w' m d id rec tnl roll := by
  obtain ⟨tail, h⟩ := h
  exact ⟨tail, heap_chg h hc hn⟩

def BeginP (m : Nat) (d : Value) (id : Int) (rec : Value) (tnl : Int) (roll : Value) (w : World) (y : Ending) (w' : World) : Prop :=
  y = .returned .nilIface ∧ ∃ r, w.heap.size ≤ r ∧ r < w'.heap.size ∧ w'.heap[r]? = some (.cells #[.slice none 0 0, roll, .int .i64 id] 176 (0, 0)) ∧ MemC w' m d id rec tnl (ptr r) ∧ Chg (fun b => b = m) w w'

set_option maxRecDepth 100000 in
set_option maxHeartbeats 1600000 in
theorem begin_any (m : Nat) (d rec roll : Value) (id tnl : Int) (w : World) (h : MemC w m d id rec tnl roll) (h0 : 0 ≤ tnl) (h1 : tnl ≤ 100) (hroll : ∃ a, roll = .pointer a) :
    Calls Tryd.prog 51 #[.pointer (some ⟨m, 0, none⟩)] w (BeginP m d id rec (tnl + 1) roll w) := by
  obtain ⟨c0, c1, c2, c3, c4, fr, lm⟩ := h.cell
  have f3 := fr 3
  have f4 := fr 4
  have hw1 : IntKind.i64.wrap (tnl + 1) = tnl + 1 := IntWalk.i64_in _ (by omega)
  obtain ⟨a0, rfl⟩ := hroll
  have H := Lib.hid h
  clear fr c0 c2 h
  go_enter Tryd.func51, Tryd.ntmps51
  go_wp2
  go_region
  go_wp2
  go_ret
  refine ⟨rfl, w.heap.size, Nat.le_refl _, by simp, ?_, ?_, ?_⟩
  · have := heap_new ((w.setCell ⟨m, 4, none⟩ (.pointer (some ⟨w.heap.size, 0, none⟩))).setCell ⟨m, 3, none⟩ (.int .i64 (tnl + 1))) (.cells #[.slice none 0 0, .pointer a0, .int .i64 id] 176)
    rw [heap_drew]
    simpa using this
  · obtain ⟨tail, h⟩ := H.out
    refine ⟨tail, ?_⟩
    rw [heap_drew, heap_alloc_ne _ _ _ (by simpa using lm), heap_setCell_at, heap_setCell_at, h]
    rfl
  · exact ((Chg.setCell (Chg.setCell (Chg.refl (fun b => b = m) w) (p := ⟨m, _, none⟩) (.inl rfl) _) (p := ⟨m, _, none⟩) (.inl rfl) _).alloc _).drew

set_option maxRecDepth 100000 in
set_option maxHeartbeats 1600000 in
theorem clone_nil (m : Nat) (w : World) :
    Calls Tryd.prog 115 #[.pointer (some ⟨m, 0, none⟩), .slice none 0 0] w fun y w' => ∃ A c, y = .returned (.slice A 0 c) ∧ Below w.heap.size w w' := by
  obtain ⟨i0, hi, hz0, hz1, hz2⟩ := info_parts info_iface
  obtain ⟨w1, hrun, hown, hg⟩ := run_make_full (P := Tryd.prog) w w.heap.size 77 20 i0 _ 1 Tryd.underlying77 hi hz0 hz1 .i64 .i64 0 (by omega) (by simp [maxLen]) (Nat.le_refl _)
  have hr : (Instr.makeSlice 77 (.int .i64 0) (.int .i64 0)).run Tryd.prog w = .ok (.slice (some ⟨w.heap.size, 0, none⟩) 0 0) w1 := hrun
  have HG := Lib.hid hg
  clear hrun hown hg
  go_enter Tryd.func115, Tryd.ntmps115
  go_wp2
  go_loopw [35] (fun i wr => i = .int .i64 0 ∧ wr = w1) (fun _ _ => 0)
  case atStart => exact ⟨rfl, rfl⟩
  case round =>
  obtain ⟨rfl, rfl⟩ := hrel
  go_wp2
  go_ret
  have hg := HG.out
  exact ⟨_, _, rfl, ⟨hg.os, hg.tape, hg.output, hg.size, fun k hk => hg.block k hk (by simp)⟩⟩

set_option maxRecDepth 100000 in
set_option maxHeartbeats 1600000 in
theorem commit_lone (m r : Nat) (L : Value) (d rec : Value) (id s : Int) (w : World) (h : MemC w m d id rec 1 (ptr r)) (hr : w.heap[r]? = some (.cells #[L, .pointer none, .int .i64 s] 176 (0, 0))) :
    Calls Tryd.prog 82 #[.pointer (some ⟨m, 0, none⟩)] w fun y w' => y = .returned .nilIface ∧ MemC w' m d id rec 0 (.pointer none) ∧ Chg (fun b => b = m) w w' := by
  obtain ⟨c0, c1, c2, c3, c4, fr, lm⟩ := h.cell
  have f3 := fr 3
  have f4 := fr 4
  replace c4 : w.cell? ⟨m, 4, none⟩ = some (.pointer (some ⟨r, 0, none⟩)) := c4
  have r1 : w.cell? ⟨r, 1, none⟩ = some (.pointer none) := cell_of_heap hr 1
  have lr := lt_of_heap hr
  have H := Lib.hid h
  have hmr : m ≠ r := by rintro rfl; obtain ⟨_, h⟩ := h; rw [hr] at h; injection h with h; injection h with _ ht; exact absurd ht (by decide)
  have hrm : ¬ r = m := fun h => hmr h.symm
  clear fr c0 c1 c2 h hr
  go_enter Tryd.func82, Tryd.ntmps82
  go_wp2
  go_ret
  refine ⟨rfl, ?_, Chg.setCell (Chg.setCell (Chg.refl (fun b => b = m) w) (p := ⟨m, _, none⟩) (.inl rfl) _) (p := ⟨m, _, none⟩) (.inl rfl) _⟩
  obtain ⟨tail, h⟩ := H.out
  refine ⟨tail, ?_⟩
  rw [heap_setCell_at, heap_setCell_at, h]
  rfl

end Go.Proofs.YtffgkocokkhahaaDoor

/- (*mem).Create of a new store's first row. -/
namespace Go.Proofs.YtffgkocokkhahaaDoor
open Go.RowKit

theorem info_row : (Tryd.prog.info? 77).map (fun i => (i.zero, i.size, i.bytes)) = some (some (.slice none 0 0), 1, 24) := by kernel_rfl

theorem Chg.of_grown {w w' : World} {row : Option Nat} (h : w.grownBy w' row) : Chg (fun b => some b = row) w w' := ⟨h.os, h.tape, h.output, h.size, fun k hk hn => h.block k hk hn⟩

def FirstP (m r : Nat) (id s : Int) (S : Nat → Prop) (w : World) (y : Ending) (w' : World) : Prop :=
  y = .returned (.tuple #[.int .i64 1, .nilIface]) ∧ ∃ d' L', MemC w' m d' id (.slice none 0 0) 1 (ptr r) ∧ w'.heap[r]? = some (.cells #[L', .pointer none, .int .i64 s] 176 (0, 0)) ∧ Chg S w w'

set_option maxRecDepth 100000 in
set_option maxHeartbeats 3200000 in
theorem create_first (B m r g : Nat) (cap : Nat) (xs : List Value) (id s : Int) (w : World) (h : MemC w m (.slice (some ⟨g, 0, none⟩) 1 cap) id (.slice none 0 0) 1 (ptr r))
    (hd : w.ownsRow 0 77 1 (.slice (some ⟨g, 0, none⟩) 1 cap) 1 xs) (hr : w.heap[r]? = some (.cells #[.slice none 0 0, .pointer none, .int .i64 s] 176 (0, 0))) (hB : ∀ b, b = m ∨ b = r ∨ b = g → B ≤ b) :
    Calls Tryd.prog 81 #[.pointer (some ⟨m, 0, none⟩), .slice none 0 0] w (FirstP m r id s (fun b => B ≤ b) w) := by
  obtain ⟨c0, c1, c2, c3, c4, fr, lm⟩ := h.cell
  replace c4 : w.cell? ⟨m, 4, none⟩ = some (.pointer (some ⟨r, 0, none⟩)) := c4
  obtain ⟨i0, hi0, hz0, hz1, hz2⟩ := info_parts info_row
  obtain ⟨i1, hi1, hy0, hy1, hy2⟩ := info_parts info_undo
  have f0 := fr 0
  have lr := lt_of_heap hr
  have hmr : m ≠ r := by rintro rfl; obtain ⟨_, h⟩ := h; rw [hr] at h; injection h with h; injection h with _ ht; exact absurd ht (by decide)
  have hrm : ¬ r = m := fun h => hmr h.symm
  have hgm : g ≠ m := by
    obtain ⟨_, h⟩ := h
    have := own_ne hd h (by decide)
    simpa [Value.ownBlock] using this
  have hgr : g ≠ r := by
    have := own_ne hd hr (by decide)
    simpa [Value.ownBlock] using this
  have H := Lib.hid h
  have HR := Lib.hid hr
  have HD := Lib.hid hd
  clear fr h hr hd
  go_enter Tryd.func81, Tryd.ntmps81
  go_wp2_with fail
  go_region_law
    (first
      | (refine step_append_lies _ (by rfl) _ _ _ (by rfl) 0 77 i0 _ 1 24 Tryd.underlying151 hi0 hz0 hz1 hz2 rfl (by omega) _ 1 xs (by rfl) ((own_below HD.out HB1.out).alloc _)
          ⟨w1.heap.size, 0, none⟩ 1 1 [.slice A1 0 k1] (by rfl) (by rfl) (World.news_of_block (cs := #[.slice A1 0 k1]) (t := 77) (fr := (0, 0)) (heap_alloc_new w1 _)) (by simp [Value.oneCell'])
          (by omega) (by simp [maxLen]) (by omega) (Nat.zero_le _) (w1.heap.size + 1) (by simp) ?_
         intro gg cap2 w2 hown2 hgrow hat hlt
         have E1 : Hid (w2.heap[m]? = w.heap[m]?) := Lib.hid ((hgrow.block m (by have := HB1.out.size; simp; omega) (by simp [Value.ownBlock]; omega)).trans ((heap_alloc_ne w1 m _ (by have := HB1.out.size; omega)).trans (HB1.out.block m lm)))
         have E2 : Hid (w2.heap[r]? = w.heap[r]?) := Lib.hid ((hgrow.block r (by have := HB1.out.size; simp; omega) (by simp [Value.ownBlock]; omega)).trans ((heap_alloc_ne w1 r _ (by have := HB1.out.size; omega)).trans (HB1.out.block r lr)))
         have e0 : w2.cell? ⟨m, 0, none⟩ = some (.slice (some ⟨g, 0, none⟩) 1 cap) := (World.cell?_of_block E1.out).trans c0
         have e1 : w2.frozen? ⟨m, 0, none⟩ = false := (World.frozen?_of_block E1.out).trans f0
         have e4 : w2.cell? ⟨m, 4, none⟩ = some (.pointer (some ⟨r, 0, none⟩)) := (World.cell?_of_block E1.out).trans c4
         have e5 : w2.cell? ⟨r, 0, none⟩ = some (.slice none 0 0) := (World.cell?_of_block E2.out).trans (cell_of_heap HR.out 0)
         have lm2 : m < w2.heap.size := by have := hgrow.size; have := HB1.out.size; simp at *; omega
         have lr2 : r < w2.heap.size := by have := hgrow.size; have := HB1.out.size; simp at *; omega
         have hs2 : w.heap.size ≤ w2.heap.size := by have := hgrow.size; have := HB1.out.size; simp at *; omega
         have HG2 := Lib.hid hgrow
         clear hgrow hown2)
      | (go_simp; go_at_call 115; refine (clone_nil m _).mono ?_; rintro y w1 ⟨A1, k1, rfl, hb1⟩; have HB1 : Hid (Below w.heap.size w w1) := (by first | exact Lib.hid hb1 | exact Lib.hid ⟨hb1.os, hb1.tape, hb1.output, hb1.size, hb1.block⟩); have d0 : w1.cell? ⟨m, 0, none⟩ = some (.slice (some ⟨g, 0, none⟩) 1 cap) := (World.cell?_of_block (HB1.out.block m lm)).trans c0; have d2 : (w1.alloc (.cells #[.slice A1 0 k1] 77)).cell? ⟨m, 0, none⟩ = some (.slice (some ⟨g, 0, none⟩) 1 cap) := (World.cell?_of_block (heap_alloc_ne w1 m _ (by have := HB1.out.size; omega))).trans d0; clear hb1))
  all_goals
    go_wp2_with (at_builtin
                 refine wpList_append_lies _ rfl (.tmp 39) (.tmp 42) _ rfl 0 225 i1 _ 3 40 Tryd.underlying174 hi1 hy0 hy1 hy2 rfl (by omega) (.slice none 0 0) 0 [] rfl (World.ownsRow_nil _ _ _ _)
                   ⟨w2.heap.size, 0, none⟩ 1 1 [.int .i64 0, .int .i64 1, .slice none 0 0] rfl rfl (World.news_of_block (cs := #[.int .i64 0, .int .i64 1, .slice none 0 0]) (t := 225) (fr := (0, 0)) (by have := heap_new (w2.setCell ⟨m, 0, none⟩ (.slice (some ⟨gg, 0, none⟩) (1 + 1) cap2)) (.cells #[.int .i64 0, .int .i64 1, .slice none 0 0] 225); simpa using this)) (by simp [Value.oneCell'])
                   (by omega) (by simp [maxLen]) (by omega) (Nat.zero_le _) (w2.heap.size + 1) (by simp) ?_
                 intro g3 cap3 w3 hown3 hgrow3 hat3 hlt3
                 have HR3 : Hid (w3.heap[r]? = some (.cells #[.slice none 0 0, .pointer none, .int .i64 s] 176 (0, 0))) := Lib.hid ((hgrow3.block r (by simp; omega) (by simp [Value.ownBlock])).trans ((heap_alloc_ne _ r _ (by simp; omega)).trans ((heap_setCell_ne _ _ _ _ _ hrm).trans (E2.out.trans HR.out))))
                 have HM3 : Hid (w3.heap[m]? = (w2.setCell ⟨m, 0, none⟩ (.slice (some ⟨gg, 0, none⟩) (1 + 1) cap2)).heap[m]?) := Lib.hid ((hgrow3.block m (by simp; omega) (by simp [Value.ownBlock])).trans (heap_alloc_ne _ m _ (by simp; omega)))
                 have r3 : w3.cell? ⟨r, 0, none⟩ = some (.slice none 0 0) := cell_of_heap HR3.out 0
                 have fr3 : w3.frozen? ⟨r, 0, none⟩ = false := free_of_heap HR3.out 0
                 have HG3 := Lib.hid hgrow3
                 clear hgrow3 hown3)
    go_ret2
    refine ⟨rfl, .slice (some ⟨gg, 0, none⟩) (1 + 1) cap2, .slice (some ⟨g3, 0, none⟩) (0 + 1) cap3, ?_, heap_set HR3.out 0 _, ?_⟩
    · obtain ⟨tail, h⟩ := H.out
      refine ⟨tail, ?_⟩
      rw [heap_setCell_ne _ _ _ _ _ hmr, HM3.out, heap_setCell_at, E1.out, h]
      rfl
    · have k1 : Chg (fun b => B ≤ b) w w1 := Chg.of_below HB1.out
      have k2 : Chg (fun b => B ≤ b) w w2 := (k1.alloc _).next (Chg.of_grown HG2.out) (fun b _ hb => hB b (.inr (.inr (by simpa [Value.ownBlock] using hb))))
      have k3 : Chg (fun b => B ≤ b) w w3 := ((k2.setCell (p := ⟨m, 0, none⟩) (.inl (hB m (.inl rfl))) _).alloc _).next (Chg.of_grown HG3.out) (fun b _ hb => by simp [Value.ownBlock] at hb)
      exact k3.setCell (p := ⟨r, 0, none⟩) (.inl (hB r (.inr (.inl rfl)))) _

end Go.Proofs.YtffgkocokkhahaaDoor

/- A new memory store; a new index of it: newMemStorage, xtreeNew, newMemIndex, ZZNewIndex. -/
namespace Go.Proofs.YtffgkocokkhahaaDoor
open Go.RowKit

set_option maxRecDepth 100000 in
set_option maxHeartbeats 3200000 in
theorem storage_any (w : World) :
    Calls Tryd.prog 49 #[] w fun y w' => ∃ m d', y = .returned (.tuple #[.pointer (some ⟨m, 0, none⟩), .nilIface]) ∧ MemC w' m d' 0 (.slice none 0 0) 0 (.pointer none) ∧ w.heap.size ≤ m ∧ Below w.heap.size w w' := by
  have hM0 : MemC ((w.alloc (.cells #[.slice none 0 0] 77)).alloc (.cells #[.slice (some ⟨w.heap.size, 0, none⟩) 1 1, .int .i64 0, .slice none 0 0, .int .i64 0, .pointer none, .int .i32 0, .int .u32 0, .int .u32 0, .int .u32 0, .int .i32 0, .int .i32 0] 167)) (w.heap.size + 1) (.slice (some ⟨w.heap.size, 0, none⟩) 1 1) 0 (.slice none 0 0) 0 (.pointer none) := ⟨[.int .i32 0, .int .u32 0, .int .u32 0, .int .u32 0, .int .i32 0, .int .i32 0], by have := heap_new (w.alloc (.cells #[.slice none 0 0] 77)) (.cells #[.slice (some ⟨w.heap.size, 0, none⟩) 1 1, .int .i64 0, .slice none 0 0, .int .i64 0, .pointer none, .int .i32 0, .int .u32 0, .int .u32 0, .int .u32 0, .int .i32 0, .int .i32 0] 167); simpa using this⟩
  have hA0 : ((w.alloc (.cells #[.slice none 0 0] 77)).alloc (.cells #[.slice (some ⟨w.heap.size, 0, none⟩) 1 1, .int .i64 0, .slice none 0 0, .int .i64 0, .pointer none, .int .i32 0, .int .u32 0, .int .u32 0, .int .u32 0, .int .i32 0, .int .i32 0] 167)).heap[w.heap.size]? = some (.cells #[.slice none 0 0] 77) := (heap_alloc_ne _ _ _ (by simp)).trans (heap_new w _)
  have hD0 : ((w.alloc (.cells #[.slice none 0 0] 77)).alloc (.cells #[.slice (some ⟨w.heap.size, 0, none⟩) 1 1, .int .i64 0, .slice none 0 0, .int .i64 0, .pointer none, .int .i32 0, .int .u32 0, .int .u32 0, .int .u32 0, .int .i32 0, .int .i32 0] 167)).ownsRow 0 77 1 (.slice (some ⟨w.heap.size, 0, none⟩) 1 1) 1 [.slice none 0 0] := ⟨rfl, .inr ⟨w.heap.size, 1, _, rfl, Nat.zero_le _, hA0, Nat.le_refl _, by simp [maxLen], rfl, rfl⟩⟩
  have hB0 : Below w.heap.size w ((w.alloc (.cells #[.slice none 0 0] 77)).alloc (.cells #[.slice (some ⟨w.heap.size, 0, none⟩) 1 1, .int .i64 0, .slice none 0 0, .int .i64 0, .pointer none, .int .i32 0, .int .u32 0, .int .u32 0, .int .u32 0, .int .i32 0, .int .i32 0] 167)) := below_al2 w _ _
  have HM0 := Lib.hid hM0
  have HA0 := Lib.hid hA0
  have HB0 := Lib.hid hB0
  clear hM0 hA0 hB0 hD0
  go_enter Tryd.func49, Tryd.ntmps49
  go_wp2_with (first
    | (go_at_call 51
       refine (begin_any (w.heap.size + 1) _ _ _ _ _ _ HM0.out (by omega) (by omega) ⟨_, rfl⟩).mono ?_
       rintro y w1 ⟨rfl, r, hr0, hr1, hr, hm1, hc1⟩
       have HA1 : Hid (w1.heap[w.heap.size]? = some (.cells #[.slice none 0 0] 77)) := Lib.hid ((hc1.block _ (by simp; omega) (by omega)).trans HA0.out)
       have HR1 := Lib.hid hr
       have HM1 := Lib.hid hm1
       have HC1 := Lib.hid hc1
       have hr2 : w.heap.size ≤ r := by simp at hr0; omega
       clear hr hm1 hc1 hr0)
    | (go_at_call 81
       refine (create_first w.heap.size (w.heap.size + 1) r w.heap.size 1 [.slice none 0 0] 0 0 w1 HM1.out ⟨rfl, .inr ⟨w.heap.size, 1, _, rfl, Nat.zero_le _, HA1.out, Nat.le_refl _, by simp [maxLen], rfl, rfl⟩⟩ HR1.out (by rintro b (h | h | h) <;> omega)).mono ?_
       rintro y w2 ⟨rfl, d2, L2, hm2, hr2', hc2⟩
       have HM2 := Lib.hid hm2
       have HR2 := Lib.hid hr2'
       have HC2 := Lib.hid hc2
       clear hm2 hr2' hc2)
    | (go_at_call 82
       refine (commit_lone (w.heap.size + 1) r L2 d2 _ 0 0 w2 HM2.out HR2.out).mono ?_
       rintro y w3 ⟨rfl, hm3, hc3⟩
       have HM3 := Lib.hid hm3
       have HC3 := Lib.hid hc3
       clear hm3 hc3))
  go_ret2
  refine ⟨w.heap.size + 1, d2, rfl, HM3.out, by omega, ?_⟩
  have k0 : Chg (fun b => w.heap.size ≤ b) w w1 := (Chg.of_below HB0.out).next HC1.out (fun b hb h => by omega)
  have k1 : Chg (fun b => w.heap.size ≤ b) w w2 := k0.next HC2.out (fun b _ h => h)
  have k2 : Chg (fun b => w.heap.size ≤ b) w w3 := k1.next HC3.out (fun b hb h => by omega)
  exact k2.below (Nat.le_refl _) (fun _ h => h)

set_option maxRecDepth 100000 in
set_option maxHeartbeats 3200000 in
theorem xtree_new (w : World) :
    Calls Tryd.prog 83 #[] w fun y w' => y = .returned (.pointer (some ⟨w.heap.size, 0, none⟩)) ∧ TreeW w' w.heap.size 0 (.pointer none) (.pointer none) .nilIface 0 ∧ w'.heap.size = w.heap.size + 1 ∧ Below w.heap.size w w' := by
  go_enter Tryd.func83, Tryd.ntmps83
  go_wp2
  go_ret
  exact ⟨rfl, heap_new w _, by simp, (Below.refl _ _).alloc (Nat.le_refl _) _⟩

set_option maxRecDepth 100000 in
set_option maxHeartbeats 3200000 in
theorem index_new (m : Nat) (uni : Bool) (w : World) :
    Calls Tryd.prog 50 #[.pointer (some ⟨m, 0, none⟩), .bool uni] w fun y w' => ∃ x t, y = .returned (.pointer (some ⟨x, 0, none⟩)) ∧ IdxW w' x m t uni ∧ TreeAt w' t [] (fun b => b = t) ∧ w.heap.size ≤ x ∧ w.heap.size ≤ t ∧ x ≠ t ∧ Below w.heap.size w w' := by
  go_enter Tryd.func50, Tryd.ntmps50
  go_wp2_with (go_at_call 83; refine (xtree_new _).mono ?_; rintro y w1 ⟨rfl, ht, hs, hb⟩; have HT := Lib.hid ht; have HB := Lib.hid hb; clear ht hb)
  go_ret
  have hl := lt_of_heap HT.out
  exact ⟨w.heap.size + 1, w.heap.size, rfl, by have := heap_new w1 (.cells #[.pointer (some ⟨m, 0, none⟩), .pointer (some ⟨w.heap.size, 0, none⟩), .bool uni] 173); rw [hs] at this; exact this, .none ⟨0, (heap_alloc_ne w1 _ _ hl).trans HT.out⟩, by omega, Nat.le_refl _, by omega, HB.out.alloc (by omega) _⟩

/-- An index that nothing has been put into, of a store in a transaction. -/
def NewP (uni : Bool) (w : World) (y : Ending) (w' : World) : Prop :=
  ∃ x m t r, y = .returned (.tuple #[.pointer (some ⟨x, 0, none⟩), .nilIface]) ∧ IdxW w' x m t uni ∧ TreeAt w' t [] (fun b => b = t) ∧ StoreAt w' m 0 r (.slice none 0 0) ∧
    w.heap.size ≤ x ∧ w.heap.size ≤ m ∧ w.heap.size ≤ t ∧ w.heap.size ≤ r ∧ Below w.heap.size w w'

set_option maxRecDepth 100000 in
set_option maxHeartbeats 3200000 in
theorem newIndex_any (uni : Bool) (w : World) : Calls Tryd.prog 26 #[.bool uni] w (NewP uni w) := by
  go_enter Tryd.func26, Tryd.ntmps26
  go_wp2_with (first
    | (go_at_call 49
       refine (storage_any _).mono ?_
       rintro y w1 ⟨m, d, rfl, hm1, hlm, hb1⟩
       have HM1 := Lib.hid hm1
       have HB1 := Lib.hid hb1
       have ls1 := hb1.size
       have lm1 := hm1.cell.2.2.2.2.2.2
       clear hm1 hb1)
    | (go_at_call 50
       refine (index_new m uni w1).mono ?_
       rintro y w2 ⟨x, t, rfl, hx2, ht2, lx, lt, hxt, hb2⟩
       have HM2 := Lib.hid (HM1.out.chg (Chg.of_below (S := fun _ => False) hb2) id)
       have HX2 := Lib.hid hx2
       have HT2 := Lib.hid ht2
       have HB2 := Lib.hid hb2
       have lx2 := lt_of_heap hx2
       have lt2 : t < w2.heap.size := by obtain ⟨ver, h, _⟩ := tree_empty ht2; exact lt_of_heap h
       clear hx2 ht2 hb2)
    | (go_at_call 51
       refine (begin_any m _ _ _ _ _ w2 HM2.out (by omega) (by omega) ⟨_, rfl⟩).mono ?_
       rintro y w3 ⟨rfl, r, lr, lr3, hr3, hm3, hc3⟩
       have HR3 := Lib.hid hr3
       have HM3 := Lib.hid hm3
       have HC3 := Lib.hid hc3
       clear hr3 hm3 hc3))
  go_ret2
  have hxm : ¬ x = m := by omega
  have htm : ¬ t = m := by omega
  obtain ⟨ver, hT, _⟩ := tree_empty HT2.out
  refine ⟨x, m, t, r, rfl, ?_, .none ⟨ver, heap_chg hT HC3.out htm⟩, ⟨?_, ⟨_, _, HR3.out⟩, ⟨[], World.ownsRow_nil _ _ _ _⟩⟩, by omega, by omega, by omega, by have := HB2.out.size; omega, ?_⟩
  · exact heap_chg (show w2.heap[x]? = _ from HX2.out) HC3.out hxm
  · obtain ⟨tail, h⟩ := HM3.out
    exact ⟨_, h, rfl⟩
  · have k0 : Chg (fun b => w.heap.size ≤ b) w w1 := Chg.of_below HB1.out
    have k1 : Chg (fun b => w.heap.size ≤ b) w w2 := k0.next (Chg.of_below (S := fun _ => False) HB2.out) (fun b _ h => h.elim)
    have k2 : Chg (fun b => w.heap.size ≤ b) w w3 := k1.next HC3.out (fun b hb h => by omega)
    exact k2.below (Nat.le_refl _) (fun _ h => h)

end Go.Proofs.YtffgkocokkhahaaDoor
