/-
  Lists of values in memory; laws.zzFits2 of them. || Pages of the index's tree in memory. || (*xtree).insert.
-/
import Derived.Test.YtffgkocokkhahaaDoorIxu01
import Derived.BigRegion
import Derived.IntWalk
import Derived.StillTailTactics

/- Lists of values in memory; laws.zzFits2 of them. -/
namespace Go.Proofs.YtffgkocokkhahaaDoor
open Go.RowKit

/-- A value's fields. -/
structure VV where
  k : ByteArray
  n : Int
  u : Int
  f : Nat
  s : ByteArray

def VV.val (x : VV) : Value := .agg #[.string x.k, .int .i64 x.n, .int .u64 x.u, .float .f64 x.f, .string x.s]

/-- A list of values lies in memory. -/
def LAt (w : World) (A : Option Addr) (l : List VV) : Prop :=
  ∀ i x, l[i]? = some x → ∃ ad, A = some ad ∧ (ad.add (i * 5)).block < w.heap.size ∧ w.cell? (ad.add (i * 5)) = some (.string x.k) ∧ w.cell? ⟨(ad.add (i * 5)).block, (ad.add (i * 5)).off + 1, none⟩ = some (.int .i64 x.n) ∧
    w.cell? ⟨(ad.add (i * 5)).block, (ad.add (i * 5)).off + 2, none⟩ = some (.int .u64 x.u) ∧ w.cell? ⟨(ad.add (i * 5)).block, (ad.add (i * 5)).off + 3, none⟩ = some (.float .f64 x.f) ∧ w.cell? ⟨(ad.add (i * 5)).block, (ad.add (i * 5)).off + 4, none⟩ = some (.string x.s)

theorem block_add (a : Addr) (j : Nat) : (a.add j).block = a.block := by unfold Addr.add; split <;> rfl

theorem LAt.below {w w' : World} {A : Option Addr} {l : List VV} (h : LAt w A l) (hb : Below w.heap.size w w') : LAt w' A l := by
  intro i x hx
  obtain ⟨ad, rfl, hlt, h0, h1, h2, h3, h4⟩ := h i x hx
  refine ⟨ad, rfl, Nat.lt_of_lt_of_le hlt hb.size, ?_, ?_, ?_, ?_, ?_⟩
  all_goals (rw [hb.cell (by exact hlt)]; assumption)

theorem up_below' {w w' w'' : World} (h : Below w.heap.size w w') (h2 : Below w'.heap.size w' w'') : Below w.heap.size w w'' := h.trans (h2.mono h.size)

def fits2B (l : List VV) : Bool := decide (l.length ≤ 2147483647) && l.all fun x => fitsB x.k x.s

theorem zzFits2_any (l : List VV) (A : Option Addr) (c : Nat) (w : World) (hl : LAt w A l) :
    Calls Tryd.prog 31 #[.slice A l.length c] w fun e w' => e = .returned (.bool (fits2B l)) ∧ Below w.heap.size w w' := by
  obtain ⟨len, hlen⟩ : ∃ len, len = l.length := ⟨_, rfl⟩
  have HL := Lib.hid hl
  have HN := Lib.hid hlen
  rw [← hlen]
  have HB : Hid (2147483647 < len → fits2B l = false) := fun h => by unfold fits2B; rw [← hlen]; simp; omega
  have HE : Hid (∀ (k : Nat) (x : VV), l[k]? = some x → fitsB x.k x.s = false → fits2B l = false) := fun k x hx hf => by
    unfold fits2B
    rw [Bool.and_eq_false_iff]
    right
    rw [List.all_eq_false]
    exact ⟨x, List.mem_of_getElem? hx, by rw [hf]; decide⟩
  have HY : Hid (len ≤ 2147483647 → (∀ j x, j < len → l[j]? = some x → fitsB x.k x.s = true) → fits2B l = true) := fun h1 h2 => by
    unfold fits2B
    rw [Bool.and_eq_true, decide_eq_true_eq, List.all_eq_true]
    refine ⟨by omega, fun x hx => ?_⟩
    obtain ⟨j, hj, rfl⟩ := List.getElem_of_mem hx
    exact h2 j _ (by omega) (List.getElem?_eq_getElem hj)
  clear hl hlen
  go_enter Tryd.func31, Tryd.ntmps31
  have HF0 := Lib.hid (fun (x : VV) (h : fitsB x.k x.s = false) w => show Calls Tryd.prog 66 #[.agg #[.string x.k, .int .i64 x.n, .int .u64 x.u, .float .f64 x.f, .string x.s]] w fun e w' => e = .returned (.bool false) ∧ Below w.heap.size w w' by rw [← h]; exact zzFits1_any x.k x.n x.u x.f x.s w)
  have HF1 := Lib.hid (fun (x : VV) (h : fitsB x.k x.s = true) w => show Calls Tryd.prog 66 #[.agg #[.string x.k, .int .i64 x.n, .int .u64 x.u, .float .f64 x.f, .string x.s]] w fun e w' => e = .returned (.bool true) ∧ Below w.heap.size w w' by rw [← h]; exact zzFits1_any x.k x.n x.u x.f x.s w)
  go_wp2
  · go_ret
    exact ⟨by rw [HB.out (by omega)]; rfl, Below.refl _ _⟩
  go_loopw [10] (fun i wr => ∃ k : Nat, k ≤ len ∧ i = .int .i64 k ∧ Below w.heap.size w wr ∧ ∀ j x, j < k → l[j]? = some x → fitsB x.k x.s = true) (fun i _ => len - (intOf i).toNat)
  case atStart => exact ⟨0, by omega, rfl, Below.refl _ _, fun _ _ h => by omega⟩
  case round =>
    obtain ⟨k, hk, rfl, hb, hall⟩ := hrel
    have HA := Lib.hid hall
    clear hall
    by_cases hlt : k < len
    · have hx : l[k]? = some (l[k]'(by rw [← HN.out]; exact hlt)) := List.getElem?_eq_getElem _
      obtain ⟨x, hx'⟩ : ∃ x, l[k]? = some x := ⟨_, hx⟩
      clear hx
      have HX := Lib.hid hx'
      obtain ⟨ad, rfl, hbl, h0, h1, h2, h3, h4⟩ := (HL.out.below hb) k x hx'
      clear hx'
      have hs := hb.size
      cases hf : fitsB x.k x.s with
      | false =>
        have HW := Lib.hid (HF0.out x hf)
        have hf' := Lib.hid hf
        clear hf
        go_wp2_with (go_at_call 66; refine (HW.out _).mono ?_; rintro e w1 ⟨rfl, hb1⟩)
        go_ret
        exact ⟨by rw [HE.out k x HX.out hf'.out]; rfl, up_below' (hb.alloc hb.size _) hb1⟩
      | true =>
        have HW := Lib.hid (HF1.out x hf)
        have hf' := Lib.hid hf
        clear hf
        go_wp2_with (go_at_call 66; refine (HW.out _).mono ?_; rintro e w1 ⟨rfl, hb1⟩)
        refine ⟨⟨k + 1, by omega, by push_cast; rfl, up_below' (hb.alloc hb.size _) hb1, fun j y hj hy => ?_⟩, by simp [intOf]; omega⟩
        rcases Nat.lt_or_ge j k with h | h
        · exact HA.out j y h hy
        · obtain rfl : j = k := by omega
          obtain rfl : y = x := Option.some.inj (hy.symm.trans HX.out)
          exact hf'.out
    · have hke : k = len := by omega
      subst hke
      go_wp2
      go_ret
      exact ⟨by rw [HY.out (by omega) HA.out]; rfl, hb⟩

end Go.Proofs.YtffgkocokkhahaaDoor

/- Pages of the index's tree in memory. -/
namespace Go.Proofs.YtffgkocokkhahaaDoor
open Go.RowKit

/-- An entry of a page: the key's values, as they are and as they lie in memory; its handle; what is kept. -/
structure XE where
  l : List VV
  A : Option Addr
  m : Nat
  p : Nat
  h : Int
  n : Int
def XE.cells (e : XE) : List Value := [.slice e.A e.m e.p, .int .i64 e.h, .int .i64 e.n]
theorem XE.three (e : XE) : e.cells.length = 3 := rfl

/-- A page's memory. -/
structure PageAt (w : World) (b : Nat) (es : List XE) (rest : List Value) (nx pv : Value) : Prop where
  heap : w.heap[b]? = some (.cells (pgL XE.cells es rest [nx, pv]).toArray 234 (0, 0))
  room : es.length * 3 + rest.length = 387
  one : ∀ x ∈ rest, x.oneCell' = true

theorem PageAt.lt {w : World} {b : Nat} {es : List XE} {rest : List Value} {nx pv : Value} (h : PageAt w b es rest nx pv) : b < w.heap.size := lt_of_heap h.heap
theorem PageAt.le {w : World} {b : Nat} {es : List XE} {rest : List Value} {nx pv : Value} (h : PageAt w b es rest nx pv) : es.length ≤ 129 := by have := h.room; omega
theorem PageAt.cell {w : World} {b : Nat} {es : List XE} {rest : List Value} {nx pv : Value} (h : PageAt w b es rest nx pv) (o : Nat) : w.cell? ⟨b, o, none⟩ = (pgL XE.cells es rest [nx, pv])[o]? := by
  rw [cell_of_heap h.heap]
  simp
theorem PageAt.free {w : World} {b : Nat} {es : List XE} {rest : List Value} {nx pv : Value} (h : PageAt w b es rest nx pv) (o : Nat) : w.frozen? ⟨b, o, none⟩ = false := free_of_heap h.heap o
theorem PageAt.chg {S : Nat → Prop} {w w' : World} {b : Nat} {es : List XE} {rest : List Value} {nx pv : Value} (h : PageAt w b es rest nx pv) (hc : Chg S w w') (hn : ¬ S b) : PageAt w' b es rest nx pv :=
  ⟨heap_chg h.heap hc hn, h.room, h.one⟩

/-- The tree's own five words. -/
def TreeW (w : World) (t : Nat) (c : Int) (fi la r : Value) (ver : Int) : Prop := w.heap[t]? = some (.cells #[.int .i64 c, fi, la, r, .int .i64 ver] 227 (0, 0))

theorem TreeW.chg {S : Nat → Prop} {w w' : World} {t : Nat} {c : Int} {fi la r : Value} {ver : Int} (h : TreeW w t c fi la r ver) (hc : Chg S w w') (hn : ¬ S t) : TreeW w' t c fi la r ver := heap_chg h hc hn

@[go_sem] theorem as_xx_xd (v : Value) (w : World) : (Instr.typeAssert (.iface 190 v) 20 228 true).run Tryd.prog w = .ok (.tuple #[.pointer none, .bool false]) w := by kernel_rfl
@[go_sem] theorem as_xd_xd (v : Value) (w : World) : (Instr.typeAssert (.iface 190 v) 20 190 true).run Tryd.prog w = .ok (.tuple #[v, .bool true]) w := by kernel_rfl
@[go_sem] theorem as_xd_xd1 (v : Value) (w : World) : (Instr.typeAssert (.iface 190 v) 20 190 false).run Tryd.prog w = .ok v w := by kernel_rfl
@[go_sem] theorem as_xx_xx (v : Value) (w : World) : (Instr.typeAssert (.iface 228 v) 20 228 true).run Tryd.prog w = .ok (.tuple #[v, .bool true]) w := by kernel_rfl
@[go_sem] theorem as_xd_xx (v : Value) (w : World) : (Instr.typeAssert (.iface 228 v) 20 190 true).run Tryd.prog w = .ok (.tuple #[.pointer none, .bool false]) w := by kernel_rfl

theorem flat_one (es : List XE) : ∀ x ∈ flat XE.cells es, x.oneCell' = true := by
  intro x hx
  unfold flat at hx
  obtain ⟨e, he, hx⟩ := List.mem_flatMap.1 hx
  simp [XE.cells] at hx
  rcases hx with rfl | rfl | rfl <;> rfl

/-- The root over several pages: a count, the first page, then for each further one itself twice: as what parts, and as what hangs there. -/
def dbl (b : Nat) : List Value := [.pointer (some ⟨b, 0, none⟩), .iface 190 (.pointer (some ⟨b, 0, none⟩))]
theorem dbl_two (b : Nat) : (dbl b).length = 2 := rfl
def xgL (b0 : Nat) (bs : List Nat) (rest : List Value) : List Value := .int .i64 bs.length :: .iface 190 (.pointer (some ⟨b0, 0, none⟩)) :: (flat dbl bs ++ rest)
structure RootAt (w : World) (x b0 : Nat) (bs : List Nat) (rest : List Value) : Prop where
  heap : w.heap[x]? = some (.cells (xgL b0 bs rest).toArray 239 (0, 0))
  room : bs.length * 2 + rest.length = 515
  one : ∀ v ∈ rest, v.oneCell' = true

theorem xgL_length (b0 : Nat) (bs : List Nat) (rest : List Value) : (xgL b0 bs rest).length = 2 + (bs.length * 2 + rest.length) := by
  simp [xgL, flat_length dbl 2 dbl_two]
  omega
theorem RootAt.lt {w : World} {x b0 : Nat} {bs : List Nat} {rest : List Value} (h : RootAt w x b0 bs rest) : x < w.heap.size := lt_of_heap h.heap
theorem RootAt.cell {w : World} {x b0 : Nat} {bs : List Nat} {rest : List Value} (h : RootAt w x b0 bs rest) (o : Nat) : w.cell? ⟨x, o, none⟩ = (xgL b0 bs rest)[o]? := by
  rw [cell_of_heap h.heap]
  simp
theorem RootAt.free {w : World} {x b0 : Nat} {bs : List Nat} {rest : List Value} (h : RootAt w x b0 bs rest) (o : Nat) : w.frozen? ⟨x, o, none⟩ = false := free_of_heap h.heap o
theorem RootAt.below {w w' : World} {x b0 : Nat} {bs : List Nat} {rest : List Value} (h : RootAt w x b0 bs rest) (hb : Below w.heap.size w w') : RootAt w' x b0 bs rest := ⟨heap_below h.heap hb, h.room, h.one⟩
theorem RootAt.chg {S : Nat → Prop} {w w' : World} {x b0 : Nat} {bs : List Nat} {rest : List Value} (h : RootAt w x b0 bs rest) (hc : Chg S w w') (hn : ¬ S x) : RootAt w' x b0 bs rest := ⟨heap_chg h.heap hc hn, h.room, h.one⟩
theorem PageAt.below {w w' : World} {b : Nat} {es : List XE} {rest : List Value} {nx pv : Value} (h : PageAt w b es rest nx pv) (hb : Below w.heap.size w w') : PageAt w' b es rest nx pv := ⟨heap_below h.heap hb, h.room, h.one⟩

/-- What parts the pages j and j + 1. -/
theorem RootAt.sep {w : World} {x b0 : Nat} {bs : List Nat} {rest : List Value} (h : RootAt w x b0 bs rest) {j b : Nat} (hj : bs[j]? = some b) : w.cell? ⟨x, 1 + j * 2 + 1, none⟩ = some (.pointer (some ⟨b, 0, none⟩)) := by
  rw [h.cell]
  unfold xgL
  rw [show 1 + j * 2 + 1 = (j * 2) + 1 + 1 by omega, List.getElem?_cons_succ, List.getElem?_cons_succ]
  have h1 : (flat dbl bs)[j * 2]? = some (.pointer (some ⟨b, 0, none⟩)) := flat_at dbl 2 dbl_two bs j b 0 _ hj (by omega) rfl
  rw [List.getElem?_append_left (List.getElem?_eq_some_iff.1 h1).1]
  exact h1
theorem RootAt.ch {w : World} {x b0 : Nat} {bs : List Nat} {rest : List Value} (h : RootAt w x b0 bs rest) {j b : Nat} (hj : (b0 :: bs)[j]? = some b) : w.cell? ⟨x, 1 + j * 2, none⟩ = some (.iface 190 (.pointer (some ⟨b, 0, none⟩))) := by
  rw [h.cell]
  unfold xgL
  cases j with
  | zero =>
    obtain rfl : b0 = b := by simpa using hj
    rfl
  | succ j =>
    rw [show 1 + (j + 1) * 2 = (j * 2 + 1) + 1 + 1 by omega, List.getElem?_cons_succ, List.getElem?_cons_succ]
    have h1 := flat_at dbl 2 dbl_two bs j b 1 _ (by simpa using hj) (by omega) rfl
    rw [List.getElem?_append_left (List.getElem?_eq_some_iff.1 h1).1]
    exact h1

end Go.Proofs.YtffgkocokkhahaaDoor

/- (*xtree).insert. -/
namespace Go.Proofs.YtffgkocokkhahaaDoor
open Go.RowKit

theorem szde : (Tryd.prog.info? 231).map (·.size) = some 3 := by kernel_rfl
theorem arrde : Tryd.prog.underlying 232 = some (.array 129 231) := by kernel_rfl

def InsertP (t q : Nat) (es : List XE) (rest : List Value) (nx pv : Value) (c : Int) (fi la r : Value) (w : World) (x : Ending) (w' : World) : Prop :=
  x = .returned (.pointer (some ⟨q, 0, none⟩)) ∧ PageAt w' q es rest nx pv ∧ (∃ ver, TreeW w' t (c + 1) fi la r ver) ∧ Chg (fun b => b = t ∨ b = q) w w'

/-- What the last stores leave. -/
theorem insert_end {q i : Nat} {es : List XE} {rest : List Value} {nx pv : Value} {e : XE} {w w3 : World} {L : List Value}
    (hL : splice (pgL XE.cells es rest [nx, pv]) (1 + (i + 1) * 3) (flat XE.cells (es.drop i)) = L)
    (hq : PageAt w q es rest nx pv) (hi : i ≤ es.length) (hl : es.length ≤ 128)
    (hq2 : w3.heap[q]? = some (.cells ((((L.set 0 (.int .i64 (es.length + 1 : Nat))).set (1 + i * 3) (.slice e.A e.m e.p)).set (1 + i * 3 + 1) (.int .i64 e.h)).set (1 + i * 3 + 2) (.int .i64 e.n)).toArray 234 (0, 0))) :
    PageAt w3 q (es.take i ++ e :: es.drop i) (rest.drop 3) nx pv := by
  have hr := hq.room
  have hlen : (pgL XE.cells es rest [nx, pv]).length = 390 := by rw [pgL_length XE.cells 3 XE.three]; simp; omega
  have hfl : (flat XE.cells (es.drop i)).length = (es.length - i) * 3 := by rw [flat_length XE.cells 3 XE.three, List.length_drop]
  refine ⟨?_, by simp [List.length_take, Nat.min_eq_left hi]; omega, fun x hx => hq.one x (List.mem_of_mem_drop hx)⟩
  rw [hq2]
  have h := ins_row XE.cells 3 XE.three es rest [nx, pv] i e hi (by omega)
  rw [hL] at h
  rw [← h, set3_splice _ _ _ _ _ (by rw [List.length_set, ← hL, length_splice _ _ _ (by omega)]; omega)]
  rfl

set_option maxRecDepth 100000 in
set_option maxHeartbeats 1000000 in
theorem insert_mid (t q : Nat) (i : Nat) (es : List XE) (rest : List Value) (nx pv : Value) (e : XE) (c : Int) (fi la r : Value) (ver : Int) (w : World)
    (hq : PageAt w q es rest nx pv) (ht : TreeW w t c fi la r ver) (hne : ¬ t = q) (hi : i < es.length) (hl : es.length ≤ 128) (c0 : 0 ≤ c) (c1 : c ≤ 2147483647) :
    Calls Tryd.prog 118 #[.pointer (some ⟨t, 0, none⟩), .pointer (some ⟨q, 0, none⟩), .int .i64 i, .agg #[.slice e.A e.m e.p, .int .i64 e.h], .int .i64 e.n] w
      (InsertP t q (es.take i ++ e :: es.drop i) (rest.drop 3) nx pv c fi la r w) := by
  obtain ⟨n, hn⟩ : ∃ n, n = es.length := ⟨_, rfl⟩
  have ct0 : w.cell? ⟨t, 0, none⟩ = some (.int .i64 c) := cell_of_heap ht 0
  have ct4 : w.cell? ⟨t, 4, none⟩ = some (.int .i64 ver) := cell_of_heap ht 4
  have ft0 : w.frozen? ⟨t, 0, none⟩ = false := free_of_heap ht 0
  have ft4 : w.frozen? ⟨t, 4, none⟩ = false := free_of_heap ht 4
  have cq0 : w.cell? ⟨q, 0, none⟩ = some (.int .i64 n) := by rw [hq.cell, hn]; rfl
  have fq0 : w.frozen? ⟨q, 0, none⟩ = false := hq.free 0
  have lt := lt_of_heap ht
  have lq := hq.lt
  have hne' : ¬ q = t := fun h => hne h.symm
  have hlen : (pgL XE.cells es rest [nx, pv]).length = 390 := by have := hq.room; rw [pgL_length XE.cells 3 XE.three]; simp; omega
  have hfl : (flat XE.cells (es.drop i)).length = (es.length - i) * 3 := by rw [flat_length XE.cells 3 XE.three, List.length_drop]
  have HLEN := Lib.hid hlen
  have HFL := Lib.hid hfl
  have H5 := Lib.hid (flat_one (es.drop i))
  have HSRC := Lib.hid (fun j v (h : (flat XE.cells (es.drop i))[j]? = some v) => (hq.cell (1 + i * 3 + j)).trans (pgL_src XE.cells 3 XE.three es rest [nx, pv] i es.length j v (by rw [List.take_of_length_le (by simp)]; exact h)))
  have HI := Lib.hid (Nat.le_of_lt hi)
  have HLE := Lib.hid hl
  rw [← hn] at hi hl
  have HN := Lib.hid hn
  have HQ := Lib.hid hq
  have HT := Lib.hid ht
  clear hn hq ht hlen hfl
  obtain ⟨L, hL⟩ : ∃ L, splice (pgL XE.cells es rest [nx, pv]) (1 + (i + 1) * 3) (flat XE.cells (es.drop i)) = L := ⟨_, rfl⟩
  have HL := Lib.hid hL
  clear hL
  go_enter Tryd.func118, Tryd.ntmps118
  go_wp2
  obtain ⟨k, hk⟩ : ∃ k, k = i + 1 := ⟨_, rfl⟩
  have hw : IntKind.i64.wrap (↑i + 1) = (k : Int) := by rw [hk, IntWalk.i64_in _ (by omega)]; rfl
  have hs1 := run_cut_l (P := Tryd.prog) arrde szde q 1 k (by omega)
  have hs2 := run_cut_lh (P := Tryd.prog) arrde szde q 1 i n (by omega) (by omega) (by omega)
  have HK := Lib.hid hk
  clear hk
  obtain ⟨w1, hw1⟩ : ∃ w1, w1 = ((w.setCell ⟨t, 4, none⟩ (.int .i64 (wrap64 (ver + 1)))).alloc (.cells #[.slice e.A e.m e.p, .int .i64 e.h] 180)).drew := ⟨_, rfl⟩
  have hC1 : Chg (fun b => b = t ∨ b = q) w w1 := by rw [hw1]; exact (((Chg.refl _ _).setCell (.inl (.inl rfl)) _).alloc _).drew
  have hQ1 : PageAt w1 q es rest nx pv := ⟨by rw [hw1, heap_drew, heap_alloc_ne _ _ _ (by simpa using lq), heap_setCell_ne _ _ _ _ _ hne']; exact HQ.out.heap, HQ.out.room, HQ.out.one⟩
  have hT1 : TreeW w1 t c fi la r (wrap64 (ver + 1)) := by
    unfold TreeW
    rw [hw1, heap_drew, heap_alloc_ne _ _ _ (by simpa using lt), heap_setCell_at, HT.out]
    rfl
  have hB1 : w1.heap[w.heap.size]? = some (.cells #[.slice e.A e.m e.p, .int .i64 e.h] 180 (0, 0)) := by
    rw [hw1, heap_drew]
    have h := heap_new (w.setCell ⟨t, 4, none⟩ (.int .i64 (wrap64 (ver + 1)))) (.cells #[.slice e.A e.m e.p, .int .i64 e.h] 180)
    simpa using h
  have HC1 := Lib.hid hC1
  have HQ1 := Lib.hid hQ1
  have HT1 := Lib.hid hT1
  have HB1 := Lib.hid hB1
  clear hC1 hQ1 hT1 hB1
  go_still_tail 12, (by kernel_rfl)
  change wpList _ _ _ _ _ (((w.setCell ⟨t, 4, none⟩ (.int .i64 (wrap64 (ver + 1)))).alloc (.cells #[.slice e.A e.m e.p, .int .i64 e.h] 180)).drew)
  rw [← hw1]
  clear hw1 ct0 ct4 ft0 ft4 cq0 fq0 hs1 hs2 hw
  refine wpList_copy_rows rfl (.tmp 31) (.tmp 37) 262 262 rfl 231 3 Tryd.underlying262 szde (some ⟨q, 1 + k * 3, none⟩) (some ⟨q, 1 + i * 3, none⟩) (129 - k) (129 - k) (n - i) (129 - i) rfl rfl
    q (1 + k * 3) (pgL XE.cells es rest [nx, pv]).toArray 234 HQ1.out.heap (flat XE.cells (es.drop i)) ?c2 (by omega) ?c3 ?c4 H5.out ?_
  case c2 => rw [HFL.out, ← HN.out, HK.out]; show (n - i) * 3 = min (n - i) (129 - (i + 1)) * 3; rw [Nat.min_eq_left (by omega)]
  case c3 => exact fun _ => ⟨rfl, _, rfl, fun j v h => by rw [add_mk, HQ1.out.cell]; exact pgL_src XE.cells 3 XE.three es rest [nx, pv] i es.length j v (by rw [List.take_of_length_le (by simp)]; exact h)⟩
  case c4 => rw [HFL.out, List.size_toArray, HLEN.out, ← HN.out, HK.out]; omega
  intro w2 HG2 HC2
  rw [HK.out, List.toList_toArray, HL.out] at HG2
  have HT2 := Lib.hid (HT1.out.chg HC2.out hne)
  have HB2 := Lib.hid (heap_chg HB1.out HC2.out (by omega))
  have hLl := HL.out
  have hLlen : L.length = 390 := by rw [← hLl, length_splice _ _ _ (by rw [HFL.out, HLEN.out, ← HN.out]; omega)]; exact HLEN.out
  have cq0 : w2.cell? ⟨q, 0, none⟩ = some (.int .i64 n) := by
    rw [cell_of_heap HG2.out, List.getElem?_toArray, ← hLl, splice_low _ _ _ 0 (by omega) (by rw [HLEN.out]; omega), HN.out]
    rfl
  obtain ⟨u1, cu1⟩ : ∃ u, w2.cell? ⟨q, 1 + i * 3, none⟩ = some u := ⟨L[1 + i * 3], by rw [cell_of_heap HG2.out, List.getElem?_toArray]; exact List.getElem?_eq_getElem _⟩
  obtain ⟨u2, cu2⟩ : ∃ u, w2.cell? ⟨q, 1 + i * 3 + 1, none⟩ = some u := ⟨L[1 + i * 3 + 1], by rw [cell_of_heap HG2.out, List.getElem?_toArray]; exact List.getElem?_eq_getElem _⟩
  obtain ⟨u3, cu3⟩ : ∃ u, w2.cell? ⟨q, 1 + i * 3 + 2, none⟩ = some u := ⟨L[1 + i * 3 + 2], by rw [cell_of_heap HG2.out, List.getElem?_toArray]; exact List.getElem?_eq_getElem _⟩
  have fq0 : w2.frozen? ⟨q, 0, none⟩ = false := free_of_heap HG2.out 0
  have fu1 : w2.frozen? ⟨q, 1 + i * 3, none⟩ = false := free_of_heap HG2.out _
  have fu2 : w2.frozen? ⟨q, 1 + i * 3 + 1, none⟩ = false := free_of_heap HG2.out _
  have fu3 : w2.frozen? ⟨q, 1 + i * 3 + 2, none⟩ = false := free_of_heap HG2.out _
  have ct0 : w2.cell? ⟨t, 0, none⟩ = some (.int .i64 c) := cell_of_heap HT2.out 0
  have ft0 : w2.frozen? ⟨t, 0, none⟩ = false := free_of_heap HT2.out 0
  have cb0 : w2.cell? ⟨w.heap.size, 0, none⟩ = some (.slice e.A e.m e.p) := cell_of_heap HB2.out 0
  have cb1 : w2.cell? ⟨w.heap.size, 1, none⟩ = some (.int .i64 e.h) := cell_of_heap HB2.out 1
  have nb1 : ¬ w.heap.size = q := by omega
  have nb2 : ¬ w.heap.size = t := by omega
  clear hLl
  go_wp2
  obtain ⟨w3, hw3⟩ : ∃ w3, w3 = w2.setCell ⟨q, 0, none⟩ (.int .i64 (↑n + 1)) := ⟨_, rfl⟩
  rw [← hw3]
  have z1 : ∀ b o, (¬ b = q ∨ ¬ o = 0) → w3.cell? ⟨b, o, none⟩ = w2.cell? ⟨b, o, none⟩ := fun b o h => by
    rw [hw3]
    exact World.cell?_setCell_other _ _ _ _ (fun e => by injection e with e1 e2; rcases h with h | h <;> exact h (by first | exact e1 | exact e2 | exact e1.symm | exact e2.symm))
  have z2 : ∀ b o, w3.frozen? ⟨b, o, none⟩ = w2.frozen? ⟨b, o, none⟩ := fun b o => by rw [hw3]; simp
  replace cu1 := (z1 _ _ (.inr (by omega))).trans cu1
  replace cu2 := (z1 _ _ (.inr (by omega))).trans cu2
  replace cu3 := (z1 _ _ (.inr (by omega))).trans cu3
  replace fu1 := (z2 _ _).trans fu1
  replace fu2 := (z2 _ _).trans fu2
  replace fu3 := (z2 _ _).trans fu3
  replace ct0 := (z1 _ _ (.inl hne)).trans ct0
  replace ft0 := (z2 _ _).trans ft0
  replace cb0 := (z1 _ _ (.inl nb1)).trans cb0
  replace cb1 := (z1 _ _ (.inl nb1)).trans cb1
  have HW3 := Lib.hid hw3
  clear z1 z2 hw3 cq0 fq0
  have hi3 : (i : Int) < 129 := by omega
  have hi4 : (0 : Int) ≤ i := by omega
  go_region
  all_goals go_wp2
  all_goals
    go_ret
    refine ⟨rfl, insert_end HL.out HQ.out HI.out HLE.out ?_, ⟨wrap64 (ver + 1), ?_⟩, ?_⟩
    · simp only [heap_drew, heap_setCell_ne _ _ _ _ _ hne', heap_setCell_at, HW3.out, HG2.out, Option.map_some, updObj_cells, List.setIfInBounds_toArray, HN.out]
      first | rfl | (rw [List.set_comm]; rfl)
    · unfold TreeW
      simp only [heap_drew, heap_setCell_ne _ _ _ _ _ hne, heap_setCell_at, HW3.out, show w2.heap[t]? = _ from HT2.out, Option.map_some, updObj_cells]
      rfl
    · rw [HW3.out]
      exact (HC1.out.trans (HC2.out.mono fun b _ h => .inr h)).trans (by repeat (first | exact Chg.refl _ _ | refine Chg.drew ?_ | refine Chg.setCell ?_ (by first | exact .inl (.inl rfl) | exact .inl (.inr rfl)) _))
set_option maxRecDepth 100000 in
set_option maxHeartbeats 1000000 in
theorem insert_last (t q : Nat) (i : Nat) (es : List XE) (rest : List Value) (nx pv : Value) (e : XE) (c : Int) (fi la r : Value) (ver : Int) (w : World)
    (hq : PageAt w q es rest nx pv) (ht : TreeW w t c fi la r ver) (hne : ¬ t = q) (hi : i = es.length) (hl : es.length ≤ 128) (c0 : 0 ≤ c) (c1 : c ≤ 2147483647) :
    Calls Tryd.prog 118 #[.pointer (some ⟨t, 0, none⟩), .pointer (some ⟨q, 0, none⟩), .int .i64 i, .agg #[.slice e.A e.m e.p, .int .i64 e.h], .int .i64 e.n] w
      (InsertP t q (es.take i ++ e :: es.drop i) (rest.drop 3) nx pv c fi la r w) := by
  have hlen : (pgL XE.cells es rest [nx, pv]).length = 390 := by have := hq.room; rw [pgL_length XE.cells 3 XE.three]; simp; omega
  have HL : splice (pgL XE.cells es rest [nx, pv]) (1 + (i + 1) * 3) (flat XE.cells (es.drop i)) = pgL XE.cells es rest [nx, pv] := by
    rw [hi, List.drop_length]
    exact splice_nil _ _
  have ct0 : w.cell? ⟨t, 0, none⟩ = some (.int .i64 c) := cell_of_heap ht 0
  have ct4 : w.cell? ⟨t, 4, none⟩ = some (.int .i64 ver) := cell_of_heap ht 4
  have ft0 : w.frozen? ⟨t, 0, none⟩ = false := free_of_heap ht 0
  have ft4 : w.frozen? ⟨t, 4, none⟩ = false := free_of_heap ht 4
  have cq0 : w.cell? ⟨q, 0, none⟩ = some (.int .i64 i) := by rw [hq.cell, hi]; rfl
  have fq0 : w.frozen? ⟨q, 0, none⟩ = false := hq.free 0
  have lt := lt_of_heap ht
  have lq := hq.lt
  have hne' : ¬ q = t := fun h => hne h.symm
  obtain ⟨u1, cu1⟩ : ∃ u, w.cell? ⟨q, 1 + i * 3, none⟩ = some u := ⟨_, (hq.cell _).trans (List.getElem?_eq_getElem (by rw [hlen]; omega))⟩
  obtain ⟨u2, cu2⟩ : ∃ u, w.cell? ⟨q, 1 + i * 3 + 1, none⟩ = some u := ⟨_, (hq.cell _).trans (List.getElem?_eq_getElem (by rw [hlen]; omega))⟩
  obtain ⟨u3, cu3⟩ : ∃ u, w.cell? ⟨q, 1 + i * 3 + 2, none⟩ = some u := ⟨_, (hq.cell _).trans (List.getElem?_eq_getElem (by rw [hlen]; omega))⟩
  have fu1 : w.frozen? ⟨q, 1 + i * 3, none⟩ = false := hq.free _
  have fu2 : w.frozen? ⟨q, 1 + i * 3 + 1, none⟩ = false := hq.free _
  have fu3 : w.frozen? ⟨q, 1 + i * 3 + 2, none⟩ = false := hq.free _
  have hi9 : i ≤ 128 := by omega
  have HLN := Lib.hid HL
  have HI := Lib.hid (Nat.le_of_eq hi)
  have HLE := Lib.hid hl
  have HN := Lib.hid hi
  have HQ := Lib.hid hq
  have HT := Lib.hid ht
  clear hq ht hlen HL hi hl
  go_enter Tryd.func118, Tryd.ntmps118
  go_wp2
  obtain ⟨w3, hw3⟩ : ∃ w3, w3 = ((w.setCell ⟨t, 4, none⟩ (.int .i64 (wrap64 (ver + 1)))).setCell ⟨q, 0, none⟩ (.int .i64 (↑i + 1))).alloc (.cells #[.slice e.A e.m e.p, .int .i64 e.h] 180) := ⟨_, rfl⟩
  rw [← hw3]
  have HG3 := Lib.hid (show w3.heap[q]? = some (.cells ((pgL XE.cells es rest [nx, pv]).set 0 (.int .i64 (↑i + 1))).toArray 234 (0, 0)) by
    rw [hw3, heap_alloc_ne _ _ _ (by simpa using lq), heap_setCell_at, heap_setCell_ne _ _ _ _ _ hne', HQ.out.heap]
    simp [updObj_cells])
  have HT3 := Lib.hid (show w3.heap[t]? = some (.cells #[.int .i64 c, fi, la, r, .int .i64 (wrap64 (ver + 1))] 227 (0, 0)) by
    rw [hw3, heap_alloc_ne _ _ _ (by simpa using lt), heap_setCell_ne _ _ _ _ _ hne, heap_setCell_at, show w.heap[t]? = _ from HT.out]
    rfl)
  have HB3 := Lib.hid (show w3.heap[w.heap.size]? = some (.cells #[.slice e.A e.m e.p, .int .i64 e.h] 180 (0, 0)) by
    rw [hw3]
    have h := heap_new ((w.setCell ⟨t, 4, none⟩ (.int .i64 (wrap64 (ver + 1)))).setCell ⟨q, 0, none⟩ (.int .i64 (↑i + 1))) (.cells #[.slice e.A e.m e.p, .int .i64 e.h] 180)
    simpa using h)
  have HC3 := Lib.hid (show Chg (fun b => b = t ∨ b = q) w w3 by
    rw [hw3]
    exact (((Chg.refl _ _).setCell (.inl (.inl rfl)) _).setCell (.inl (.inr rfl)) _).alloc _)
  have z1 : ∀ o, ¬ o = 0 → w3.cell? ⟨q, o, none⟩ = w.cell? ⟨q, o, none⟩ := fun o h => by
    rw [cell_of_heap HG3.out, HQ.out.cell, List.getElem?_toArray, List.getElem?_set_ne (fun e => h e.symm)]
  replace cu1 := (z1 _ (by omega)).trans cu1
  replace cu2 := (z1 _ (by omega)).trans cu2
  replace cu3 := (z1 _ (by omega)).trans cu3
  replace fu1 : w3.frozen? ⟨q, 1 + i * 3, none⟩ = false := free_of_heap HG3.out _
  replace fu2 : w3.frozen? ⟨q, 1 + i * 3 + 1, none⟩ = false := free_of_heap HG3.out _
  replace fu3 : w3.frozen? ⟨q, 1 + i * 3 + 2, none⟩ = false := free_of_heap HG3.out _
  replace ct0 : w3.cell? ⟨t, 0, none⟩ = some (.int .i64 c) := cell_of_heap HT3.out 0
  replace ft0 : w3.frozen? ⟨t, 0, none⟩ = false := free_of_heap HT3.out 0
  have cb0 : w3.cell? ⟨w.heap.size, 0, none⟩ = some (.slice e.A e.m e.p) := cell_of_heap HB3.out 0
  have cb1 : w3.cell? ⟨w.heap.size, 1, none⟩ = some (.int .i64 e.h) := cell_of_heap HB3.out 1
  have nb1 : ¬ w.heap.size = q := by omega
  have nb2 : ¬ w.heap.size = t := by omega
  clear z1 hw3 cq0 fq0 ct4 ft4
  have hi3 : (i : Int) < 129 := by omega
  have hi4 : (0 : Int) ≤ i := by omega
  go_region
  all_goals go_wp2
  all_goals
    go_ret
    refine ⟨rfl, insert_end HLN.out HQ.out HI.out HLE.out ?_, ⟨wrap64 (ver + 1), ?_⟩, ?_⟩
    · simp only [heap_drew, heap_setCell_ne _ _ _ _ _ hne', heap_setCell_at, HG3.out, Option.map_some, updObj_cells, List.setIfInBounds_toArray, HN.out]
      first | rfl | (rw [List.set_comm]; rfl)
    · unfold TreeW
      simp only [heap_drew, heap_setCell_ne _ _ _ _ _ hne, heap_setCell_at, HT3.out, Option.map_some, updObj_cells]
      rfl
    · exact HC3.out.trans (by repeat (first | exact Chg.refl _ _ | refine Chg.drew ?_ | refine Chg.setCell ?_ (by first | exact .inl (.inl rfl) | exact .inl (.inr rfl)) _))

theorem insert_any (t q : Nat) (i : Nat) (es : List XE) (rest : List Value) (nx pv : Value) (e : XE) (c : Int) (fi la r : Value) (ver : Int) (w : World)
    (hq : PageAt w q es rest nx pv) (ht : TreeW w t c fi la r ver) (hne : ¬ t = q) (hi : i ≤ es.length) (hl : es.length ≤ 128) (c0 : 0 ≤ c) (c1 : c ≤ 2147483647) :
    Calls Tryd.prog 118 #[.pointer (some ⟨t, 0, none⟩), .pointer (some ⟨q, 0, none⟩), .int .i64 i, .agg #[.slice e.A e.m e.p, .int .i64 e.h], .int .i64 e.n] w
      (InsertP t q (es.take i ++ e :: es.drop i) (rest.drop 3) nx pv c fi la r w) := by
  rcases Nat.lt_or_ge i es.length with h | h
  · exact insert_mid t q i es rest nx pv e c fi la r ver w hq ht hne h hl c0 c1
  · exact insert_last t q i es rest nx pv e c fi la r ver w hq ht hne (by omega) hl c0 c1

end Go.Proofs.YtffgkocokkhahaaDoor
