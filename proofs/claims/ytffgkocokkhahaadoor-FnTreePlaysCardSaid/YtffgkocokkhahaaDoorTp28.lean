/-
  A row of the call's own whose block may be longer than its capacity: what a cut with a capacity leaves; append onto it; an element put in, an element's part set. Pairs in it. || The law's own list of pairs: how a place is found; what each deed makes of it. No program. || A comparison that tells some number. PRINTED BY wip/tpl/gen_ycs.py.
-/
import Derived.Test.YtffgkocokkhahaaDoorTp27
import Derived.Test.YtffgkocokkhahaaDoorTp12
import Derived.Test.YtffgkocokkhahaaDoorTp24

/- A row of the call's own whose block may be longer than its capacity: what a cut with a capacity leaves; append onto it; an element put in, an element's part set. Pairs in it. -/
namespace Go.Proofs.YtffgkocokkhahaaDoor
open Go.RowKit

def cutP (g cap l s : Nat) : Option Addr := if cap = l then some ⟨g, 0, none⟩ else some ⟨g, l * s, none⟩

theorem run_from {P : Program} {t E s : Nat} (ht : P.underlying t = some (.slice E)) (hs : (P.info? E).map (·.size) = some s) (g n cap l : Nat) (hl : l ≤ n) (w : World) :
    (Instr.sliceAt t (.slice (some ⟨g, 0, none⟩) n cap) (some (.int .i64 (l : Int))) none none).run P w = .ok (.slice (cutP g cap l s) (n - l) (cap - l)) w := by
  have he : P.elem t = E := by simp [Program.elem, ht]
  have h' : P.underlying t = some (.slice (P.elem t)) := by rw [he]; exact ht
  rw [run_sliceAt_slice (h := h'), run_slice_l (ht := h') (h0 := by omega) (h1 := by omega), he]
  obtain ⟨i, hq, hi⟩ := Option.map_eq_some_iff.1 hs
  have hz : (sizeOf E).run P w = .ok s w := by simp [sizeOf, typeInfo, hq, hi]
  rw [hz]
  simp only [Result.andThen, sliced, cutP]
  by_cases h : cap = l
  · simp [h]
  · simp [h, add_mk]

theorem run_cap_at {P : Program} {t E s : Nat} (ht : P.underlying t = some (.slice E)) (hs : (P.info? E).map (·.size) = some s) (g n cap l : Nat) (hl : l ≤ cap) (w : World) :
    (Instr.sliceAt t (.slice (some ⟨g, 0, none⟩) n cap) none (some (.int .i64 (l : Int))) (some (.int .i64 (l : Int)))).run P w = .ok (.slice (some ⟨g, 0, none⟩) l l) w := by
  have he : P.elem t = E := by simp [Program.elem, ht]
  have h' : P.underlying t = some (.slice (P.elem t)) := by rw [he]; exact ht
  rw [run_sliceAt_slice (h := h'), run_slice_hm (ht := h') (h0 := by omega) (h2 := by omega) (h3 := by omega), he]
  obtain ⟨i, hq, hi⟩ := Option.map_eq_some_iff.1 hs
  have hz : (sizeOf E).run P w = .ok s w := by simp [sizeOf, typeInfo, hq, hi]
  rw [hz]
  simp [Result.andThen, sliced, add_mk]

theorem cur_split {cur : Array Value} {n : Nat} {xs : List Value} (h : cur.toList.take n = xs) : cur.toList = xs ++ cur.toList.drop n := by rw [← h, List.take_append_drop]

/-- A row: its block's first cells; the block has room for the capacity, or more. -/
def RowX (w : World) (B : Nat) (e : TypeId) (s : Nat) (v : Value) (n : Nat) (xs : List Value) : Prop :=
  xs.length = n * s ∧
  ((v = .slice none 0 0 ∧ n = 0) ∨
   ∃ g cap cur, v = .slice (some ⟨g, 0, none⟩) n cap ∧ B ≤ g ∧ w.heap[g]? = some (.cells cur e (0, 0)) ∧ n ≤ cap ∧ cap ≤ maxLen ∧ cap * s ≤ cur.size ∧ cur.toList.take (n * s) = xs)

theorem RowX.nil (w : World) (B : Nat) (e : TypeId) (s : Nat) : RowX w B e s (.slice none 0 0) 0 [] := ⟨by simp, .inl ⟨rfl, rfl⟩⟩
theorem RowX.form {w : World} {B : Nat} {e : TypeId} {s : Nat} {v : Value} {n : Nat} {xs : List Value} (h : RowX w B e s v n xs) : ∃ A c, v = .slice A n c := by
  rcases h.2 with ⟨rfl, rfl⟩ | ⟨g, cap, cur, rfl, _⟩
  · exact ⟨_, _, rfl⟩
  · exact ⟨_, _, rfl⟩
theorem RowX.open_ {w : World} {B : Nat} {e : TypeId} {s : Nat} {v : Value} {n : Nat} {xs : List Value} (h : RowX w B e s v n xs) (hn : 0 < n) :
    ∃ g cap cur, v = .slice (some ⟨g, 0, none⟩) n cap ∧ B ≤ g ∧ w.heap[g]? = some (.cells cur e (0, 0)) ∧ n ≤ cap ∧ cap ≤ maxLen ∧ cap * s ≤ cur.size ∧ cur.toList.take (n * s) = xs := by
  rcases h.2 with ⟨_, h0⟩ | h
  · omega
  · exact h
theorem RowX.ge {w : World} {B : Nat} {e : TypeId} {s : Nat} {v : Value} {n : Nat} {xs : List Value} (h : RowX w B e s v n xs) {b : Nat} (hb : v.ownBlock = some b) : B ≤ b := by
  rcases h.2 with ⟨rfl, _⟩ | ⟨g, cap, cur, rfl, hB, _⟩
  · cases hb
  · obtain rfl : g = b := by simpa [Value.ownBlock] using hb
    exact hB
theorem RowX.chg {S : Nat → Prop} {w w' : World} {B : Nat} {e : TypeId} {s : Nat} {v : Value} {n : Nat} {xs : List Value} (h : RowX w B e s v n xs) (hc : Chg S w w') (hn : ∀ b, v.ownBlock = some b → ¬ S b) : RowX w' B e s v n xs := by
  obtain ⟨h1, h2⟩ := h
  refine ⟨h1, ?_⟩
  rcases h2 with h2 | ⟨g, cap, cur, e1, e2, e3, e4⟩
  · exact .inl h2
  · exact .inr ⟨g, cap, cur, e1, e2, heap_chg e3 hc (hn g (by rw [e1]; rfl)), e4⟩
theorem RowX.below {w w' : World} {B : Nat} {e : TypeId} {s : Nat} {v : Value} {n : Nat} {xs : List Value} (h : RowX w B e s v n xs) (hb : Below w.heap.size w w') : RowX w' B e s v n xs :=
  h.chg (Chg.of_below (S := fun _ => False) hb) (fun _ _ h => h)
theorem RowX.reads {w : World} {B : Nat} {e : TypeId} {s n c : Nat} {A : Option Addr} {xs : List Value} (h : RowX w B e s (.slice A n c) n xs) : Reads w w.heap.size s A n xs := by
  refine ⟨h.1, fun hn => ?_⟩
  obtain ⟨g, cap, cur, hv, _, hh, _, _, _, ht⟩ := h.open_ hn
  injection hv with hv
  subst hv
  refine ⟨_, rfl, lt_of_heap hh, fun j u hu => ?_⟩
  rw [add_mk, cell_of_heap hh, ← Array.getElem?_toList, Nat.zero_add, cur_split ht, List.getElem?_append_left (List.getElem?_eq_some_iff.1 hu).1]
  exact hu

section
variable {P : Program} (w : World)

/-- append onto such a row. -/
theorem run_append_x (base : Nat) (t ty e : TypeId) (i : TypeInfo) (z : Value) (size bytes : Nat) (ht : P.underlying t = some (.slice e)) (hi : P.info? e = some i) (hz : i.zero = some z)
    (hsize : i.size = size) (hby : i.bytes = bytes) (hzs : z.cells.size = size)
    (v : Value) (n : Nat) (xs : List Value) (hown : RowX w base e size v n xs)
    (a : Option Addr) (m c : Nat) (news : List Value) (hl : news.length = m * size) (hpos : 0 < m → ∃ ad, a = some ad ∧ ∀ j u, news[j]? = some u → w.cell? (ad.add j) = some u) (h1 : ∀ u ∈ news, u.oneCell' = true)
    (h63 : n + m ≤ maxLen) (hbytes : (n + m) * bytes ≤ 140737488355328) (hbase : base ≤ w.heap.size) :
    ∃ v' w', (Builtin.append_ #[t, t] ty #[v, .slice a m c]).run P w = .ok v' w' ∧ RowX w' base e size v' (n + m) (xs ++ news) ∧ w.grownBy w' v.ownBlock ∧
      (v'.ownBlock = v.ownBlock ∨ v'.ownBlock = some w.heap.size) := by
  subst hsize
  subst hby
  have hsmall : n + m ≤ 9223372036854775807 := by simp only [maxLen] at h63; omega
  have hlen : (xs ++ news).length = (n + m) * i.size := by rw [List.length_append, hown.1, hl, Nat.add_mul]
  by_cases hm : m = 0
  · subst hm
    have hn : news = [] := List.eq_nil_of_length_eq_zero (by simpa using hl)
    subst hn
    refine ⟨v, w, ?_, by simpa using hown, ⟨rfl, rfl, rfl, Nat.le_refl _, fun _ _ _ => rfl⟩, .inl rfl⟩
    rcases hown.2 with ⟨rfl, rfl⟩ | ⟨g, cap, cur, rfl, _, _, hnc, _⟩
    · cases a <;> simp [Builtin.append_, run_underlying ht, sizeOf, typeInfo, hi, Builtin.lenOf, Builtin.firstCells, loadCells, loadCellsFrom]
    · cases a <;> simp [Builtin.append_, run_underlying ht, sizeOf, typeInfo, hi, Builtin.lenOf, Builtin.firstCells, loadCells, loadCellsFrom, hnc, storeCells]
  obtain ⟨ad, rfl, hnews⟩ := hpos (by omega)
  have grown : ∀ (old : Nat), old < n + m → ∀ (row : Option Nat),
      RowX (w.drew.alloc (.cells (xs.toArray ++ news.toArray ++ Builtin.zeroCells z.cells (grownCap w (n + m) old e - (n + m))) e)) base e i.size
        (.slice (some ⟨w.heap.size, 0, none⟩) (n + m) (grownCap w (n + m) old e)) (n + m) (xs ++ news) ∧
      w.grownBy (w.drew.alloc (.cells (xs.toArray ++ news.toArray ++ Builtin.zeroCells z.cells (grownCap w (n + m) old e - (n + m))) e)) row := by
    intro old ho row
    have hge := grownCap_ge w (n + m) old e
    have hcm : grownCap w (n + m) old e ≤ maxLen := grownCap_le_maxLen w (n + m) old e h63
    refine ⟨⟨hlen, .inr ⟨w.heap.size, _, _, rfl, hbase, heap_new w.drew _, hge, hcm, ?_, ?_⟩⟩, ⟨rfl, rfl, rfl, by simp, fun k hk _ => Below.heap_alloc w.drew _ k hk⟩⟩
    · simp only [Array.size_append, List.size_toArray, size_zeroCells, hzs, hown.1, hl, ← Nat.add_mul]
      refine Nat.le_of_eq ?_
      congr 1
      omega
    · simp only [Array.toList_append, List.append_assoc]
      rw [← List.append_assoc, ← hlen]
      exact List.take_left
  rcases hown.2 with ⟨rfl, rfl⟩ | ⟨g, cap, cur, rfl, hbg, hg, hnc, hcm, hcs, htake⟩
  · have hx : xs = [] := List.eq_nil_of_length_eq_zero (by simpa using hown.1)
    subst hx
    have hr := run_append_nil (P := P) w t ty e i z ht hi hz ad m c news hl hnews (by omega) (by omega) (by have hb := hbytes; simp only [Nat.zero_add] at hb; omega)
    have hgr := grown 0 (by omega) (Value.ownBlock (.slice none 0 0))
    simp only [Nat.zero_add, List.nil_append, Array.empty_append] at hgr ⊢
    exact ⟨_, _, hr, hgr.1, hgr.2, Or.inr rfl⟩
  · by_cases hroom : n + m ≤ cap
    · have hfit : n * i.size + news.length ≤ cur.size := by
        rw [hl, ← Nat.add_mul]
        exact Nat.le_trans (Nat.mul_le_mul_right _ hroom) hcs
      have hr := run_append_room (P := P) w t ty e i ht hi g n cap cur hg ad m c news hl hnews h1 hroom hfit
      refine ⟨_, _, hr, ⟨hlen, .inr ⟨g, cap, _, rfl, hbg, setRow_heap w g cur _ e _ hg, hroom, hcm, ?_, ?_⟩⟩, ⟨rfl, rfl, rfl, by simp, fun k _ hk => setRow_other w g k _ (fun e => hk (by simp [Value.ownBlock, e]))⟩, Or.inl rfl⟩
      · simp only [List.size_toArray, List.length_append, List.length_take, List.length_drop, Array.length_toList]
        omega
      · rw [htake, ← hlen]
        exact List.take_left
    · have holds : ∀ j u, xs[j]? = some u → w.cell? ((⟨g, 0, none⟩ : Addr).add j) = some u := fun j u hu => by
        rw [add_mk, cell_of_heap hg, ← Array.getElem?_toList, Nat.zero_add, cur_split htake, List.getElem?_append_left (List.getElem?_eq_some_iff.1 hu).1]
        exact hu
      have hr := run_append_grow (P := P) w t ty e i z ht hi hz ⟨g, 0, none⟩ n cap xs hown.1 holds ad m c news hl hnews (by omega) (by omega) (growslice_fits (by omega) hbytes)
      have hgr := grown cap (by omega) (Value.ownBlock (.slice (some ⟨g, 0, none⟩) n cap))
      exact ⟨_, _, hr, hgr.1, hgr.2, Or.inr rfl⟩

theorem wpList_append_x {ops : Array Oper} {rest : List Oper} {o : Oper} {a : Act} {Q : Exit → Act → World → Prop} (hgd : o.guard = none) (s x : Operand) (t : TypeId)
    (ho : o.op = .call { callee := .builtin .append, args := #[s, x], argTypes := #[t, t] })
    (base : Nat) (e : TypeId) (i : TypeInfo) (z : Value) (size bytes : Nat) (ht : P.underlying t = some (.slice e)) (hi : P.info? e = some i) (hz : i.zero = some z)
    (hsize : i.size = size) (hby : i.bytes = bytes) (hzs : z.cells.size = size)
    (v : Value) (n : Nat) (xs : List Value) (hs : a.eval s = v) (hown : RowX w base e size v n xs)
    (A : Option Addr) (m c : Nat) (news : List Value) (hx : a.eval x = .slice A m c) (hl : news.length = m * size) (hpos : 0 < m → ∃ ad, A = some ad ∧ ∀ j u, news[j]? = some u → w.cell? (ad.add j) = some u) (h1 : ∀ u ∈ news, u.oneCell' = true)
    (h63 : n + m ≤ maxLen) (hbytes : (n + m) * bytes ≤ 140737488355328) (hbase : base ≤ w.heap.size)
    (h : ∀ v' w', RowX w' base e size v' (n + m) (xs ++ news) → w.grownBy w' v.ownBlock → (v'.ownBlock = v.ownBlock ∨ v'.ownBlock = some w.heap.size) → wpList P ops Q rest (a.put o.dst v') w') : wpList P ops Q (o :: rest) a w := by
  refine wpList_plain hgd fun _ hK => ?_
  obtain ⟨v', w', hrun, h2, h3, h4⟩ := run_append_x (P := P) w base t o.type e i z size bytes ht hi hz hsize hby hzs v n xs hown A m c news hl hpos h1 h63 hbytes hbase
  unfold Oper.wp execOp
  simp only [ho, resolve, invoke, builtin, Sem.run_bind, Sem.run_pure, Result.andThen_ok, List.map_toArray, List.map_cons, List.map_nil, hs, hx, hrun]
  exact hK _ _ (h v' w' h2 h3 h4)
end

/-! ### Pairs -/

theorem spair : (Tryd.prog.info? 66).map (·.size) = some 2 := by kernel_rfl

theorem one_pairs (ps : List PairV) : ∀ v ∈ flat PairV.cells ps, v.oneCell' = true := by
  intro v hv
  obtain ⟨r, _, hr⟩ := List.mem_flatMap.1 hv
  simp [PairV.cells] at hr
  rcases hr with rfl | rfl <;> rfl

abbrev RowP (w : World) (B : Nat) (v : Value) (ps : List PairV) : Prop := RowX w B 66 2 v ps.length (flat PairV.cells ps)

theorem ins_cellsP {rows : List PairV} {r : PairV} {zc rest : List Value} (hz : zc.length = 2) {k : Nat} (hk : k ≤ rows.length) :
    splice (splice (flat PairV.cells rows ++ (zc ++ rest)) ((k + 1) * 2) (flat PairV.cells (rows.drop k))) (k * 2) r.cells = flat PairV.cells (rows.take k ++ r :: rows.drop k) ++ rest := by
  have hT : (flat PairV.cells (rows.take k)).length = k * 2 := by rw [flat_length PairV.cells 2 PairV.two, List.length_take]; omega
  have e1 : flat PairV.cells rows = flat PairV.cells (rows.take k) ++ flat PairV.cells (rows.drop k) := by rw [← flat_append, List.take_append_drop]
  rw [flat_append, flat_cons, e1]
  generalize flat PairV.cells (rows.take k) = T at *
  generalize flat PairV.cells (rows.drop k) = D at *
  have e2 : T ++ D ++ (zc ++ rest) = (T ++ (D ++ zc).take 2) ++ ((D ++ zc).drop 2 ++ rest) := by
    have : (D ++ zc).take 2 ++ ((D ++ zc).drop 2 ++ rest) = D ++ (zc ++ rest) := by rw [← List.append_assoc, List.take_append_drop, List.append_assoc]
    rw [List.append_assoc, List.append_assoc, this]
  have h2 : ((D ++ zc).take 2).length = 2 := by simp [hz]
  have h3 : ((D ++ zc).drop 2).length = D.length := by simp [hz]
  rw [e2, splice_mid _ _ _ D _ (by simp only [List.length_append, h2, hT]; omega) h3, List.append_assoc, splice_mid T _ (D ++ rest) r.cells _ hT.symm (by rw [h2]; rfl)]
  simp

/-- A pair put among a row's pairs: the later ones moved on, its cells set. -/
theorem row_ins {W w3 : World} {g cap k p B : Nat} {T : TypeId} {cur : Array Value} {ws : List PairV} {r : PairV} {zc : List Value} (hlen : ws.length = k) (hp : p ≤ k) (hcur : cur.toList.take ((k + 1) * 2) = flat PairV.cells ws ++ zc) (hz : zc.length = 2) (hsz : cap * 2 ≤ cur.size) (hnc : k + 1 ≤ cap) (hcm : cap ≤ maxLen) (hge : B ≤ g)
    (h3 : w3.heap[g]? = some (.cells (splice cur.toList ((p + 1) * 2) (flat PairV.cells (ws.drop p))).toArray T (0, 0))) (hW : W = (w3.setCell ⟨g, p * 2, none⟩ (.slice r.kA r.k.length r.kc)).setCell ⟨g, p * 2 + 1, none⟩ (.slice r.vA r.v.length r.vc)) :
    RowX W B T 2 (.slice (some ⟨g, 0, none⟩) (k + 1) cap) (k + 1) (flat PairV.cells (ws.take p ++ r :: ws.drop p)) := by
  have hfl : (flat PairV.cells (ws.take p ++ r :: ws.drop p)).length = (k + 1) * 2 := by rw [flat_length PairV.cells 2 PairV.two, List.length_append, List.length_take, List.length_cons, List.length_drop]; omega
  have hfd : (flat PairV.cells (ws.drop p)).length = (k - p) * 2 := by rw [flat_length PairV.cells 2 PairV.two, List.length_drop, hlen]
  have hcl : cap * 2 ≤ cur.toList.length := by simpa using hsz
  have hsp : (splice cur.toList ((p + 1) * 2) (flat PairV.cells (ws.drop p))).length = cur.toList.length := length_splice _ _ _ (by rw [hfd]; omega)
  have hL : ((splice cur.toList ((p + 1) * 2) (flat PairV.cells (ws.drop p))).set (p * 2) (.slice r.kA r.k.length r.kc)).set (p * 2 + 1) (.slice r.vA r.v.length r.vc) = flat PairV.cells (ws.take p ++ r :: ws.drop p) ++ cur.toList.drop ((k + 1) * 2) := by
    rw [set2_splice _ _ _ _ (by rw [hsp]; omega), cur_split hcur, List.append_assoc]
    have hd : (flat PairV.cells ws ++ (zc ++ cur.toList.drop ((k + 1) * 2))).drop ((k + 1) * 2) = cur.toList.drop ((k + 1) * 2) := by
      rw [← List.append_assoc, ← hcur, List.take_append_drop]
    rw [hd]
    exact ins_cellsP hz (by omega)
  refine ⟨hfl, .inr ⟨g, cap, (flat PairV.cells (ws.take p ++ r :: ws.drop p) ++ cur.toList.drop ((k + 1) * 2)).toArray, rfl, hge, ?_, hnc, hcm, ?_, ?_⟩⟩
  · rw [hW, heap_setCell_at, heap_setCell_at, h3]
    simp only [Option.map_some, updObj_cells, List.setIfInBounds_toArray]
    rw [hL]
  · rw [← hL]
    simp only [List.size_toArray, List.length_set, hsp]
    exact hcl
  · rw [List.take_append_of_le_length (by omega), List.take_of_length_le (by omega)]

/-- A pair's second part set. -/
theorem row_put {w : World} {g cap B n p : Nat} {T : TypeId} {ws : List PairV} {r : PairV} {V : List VV} {vA : Option Addr} {vc : Nat} (hn : ws.length = n) (h : RowX w B T 2 (.slice (some ⟨g, 0, none⟩) n cap) n (flat PairV.cells ws)) (hr : ws[p]? = some r) :
    RowX (w.setCell ⟨g, p * 2 + 1, none⟩ (.slice vA V.length vc)) B T 2 (.slice (some ⟨g, 0, none⟩) n cap) n (flat PairV.cells (ws.set p ⟨r.kA, r.kc, r.k, vA, vc, V⟩)) := by
  subst hn
  have hp := (List.getElem?_eq_some_iff.1 hr).1
  obtain ⟨g', cap', cur, hv, hge, hh, hnc, hcm, hsz, htk⟩ := h.open_ (by omega)
  injection hv with h1 h2 h3
  injection h1 with h1
  injection h1 with h1
  subst h1
  subst h3
  have hfl : (flat PairV.cells ws).length = ws.length * 2 := flat_length PairV.cells 2 PairV.two ws
  have e1 : (flat PairV.cells ws).set (p * 2 + 1) (.slice vA V.length vc) = flat PairV.cells (ws.set p ⟨r.kA, r.kc, r.k, vA, vc, V⟩) := by
    have hT : (flat PairV.cells (ws.take p)).length = p * 2 := by rw [flat_length PairV.cells 2 PairV.two, List.length_take]; omega
    obtain ⟨_, hre⟩ := List.getElem?_eq_some_iff.1 hr
    have e0 : ws = ws.take p ++ r :: ws.drop (p + 1) := by rw [← hre, List.getElem_cons_drop, List.take_append_drop]
    have e2 : ws.set p ⟨r.kA, r.kc, r.k, vA, vc, V⟩ = ws.take p ++ ⟨r.kA, r.kc, r.k, vA, vc, V⟩ :: ws.drop (p + 1) := by rw [List.set_eq_take_append_cons_drop, if_pos hp]
    rw [e2, flat_append, flat_cons, show flat PairV.cells ws = flat PairV.cells (ws.take p) ++ (r.cells ++ flat PairV.cells (ws.drop (p + 1))) by rw [← flat_cons, ← flat_append, ← e0], List.set_append_right _ _ (by omega), hT, show p * 2 + 1 - p * 2 = 1 by omega]
    rfl
  refine ⟨by rw [flat_length PairV.cells 2 PairV.two, List.length_set], .inr ⟨g, cap, cur.setIfInBounds (p * 2 + 1) (.slice vA V.length vc), rfl, hge, ?_, hnc, hcm, by simpa using hsz, ?_⟩⟩
  · rw [heap_setCell_at, hh]
    rfl
  · rw [← e1, Array.toList_setIfInBounds, List.take_set, htk]

/-- A part of a row from its beginning. -/
theorem row_take {w : World} {g cap B n : Nat} {T : TypeId} {ws : List PairV} (hn : ws.length = n) (h : RowX w B T 2 (.slice (some ⟨g, 0, none⟩) n cap) n (flat PairV.cells ws)) (hp : 0 < n) (k : Nat) (hk : k ≤ n) :
    RowX w B T 2 (.slice (some ⟨g, 0, none⟩) k k) k (flat PairV.cells (ws.take k)) := by
  subst hn
  obtain ⟨g', cap', cur, hv, hge, hh, hnc, hcm, hsz, htk⟩ := h.open_ hp
  injection hv with h1 h2 h3
  injection h1 with h1
  injection h1 with h1
  subst h1
  subst h3
  refine ⟨by rw [flat_length PairV.cells 2 PairV.two, List.length_take]; omega, .inr ⟨g, k, cur, rfl, hge, hh, Nat.le_refl _, by omega, by omega, ?_⟩⟩
  rw [← flat_take PairV.cells 2 PairV.two, ← htk, List.take_take, Nat.min_eq_left (by omega)]

theorem RowP.pairs {w : World} {B c : Nat} {A : Option Addr} {ps : List PairV} {n : Nat} (hn : ps.length = n) (h : RowX w B 66 2 (.slice A n c) n (flat PairV.cells ps)) (hv : ∀ r ∈ ps, LAt w r.kA r.k ∧ LAt w r.vA r.v) : PairsAt w A ps := pairs_reads h.reads hn hv

end Go.Proofs.YtffgkocokkhahaaDoor

/- The law's own list of pairs: how a place is found; what each deed makes of it. No program. -/
namespace Go.Proofs.YtffgkocokkhahaaDoor
open Go.RowKit

theorem placeP_eq {d : Bool} {K : List VV} : ∀ {st : List PR} {k : Nat}, k ≤ st.length → (∀ (j : Nat) (x : PR), j < k → st[j]? = some x → 0 < kc d K x.k) → (∀ x, st[k]? = some x → kc d K x.k ≤ 0) → placeP d K st = k
  | [], k, hk, _, _ => by
    obtain rfl : k = 0 := by simpa using hk
    rfl
  | y :: l, 0, _, _, h => by
    have := h y rfl
    unfold placeP
    rw [if_neg (by omega)]
  | y :: l, k + 1, hk, h1, h2 => by
    unfold placeP
    rw [if_pos (h1 0 y (by omega) rfl), placeP_eq (st := l) (k := k) (by simpa using hk) (fun j x hj hx => h1 (j + 1) x (by omega) (by simpa using hx)) (fun x hx => h2 x (by simpa using hx))]

/-- A pair's key and value. -/
def PairV.pr (r : PairV) : PR := ⟨r.k, r.v⟩

/-- The law's list: what its pairs are. -/
structure NowL (dsc : Bool) (n : Nat) (st : List PR) (ps : List PairV) (w1 : World) : Prop where
  prs : ps.map PairV.pr = st
  ok : StOk dsc n st
  ck : ∀ r ∈ ps, ConcL r.k
  cv : ∀ r ∈ ps, ConcL r.v
  lv : ∀ r ∈ ps, r.v.length ≤ 1000
  at_ : ∀ r ∈ ps, LAt w1 r.kA r.k ∧ LAt w1 r.vA r.v

theorem NowL.nil (dsc : Bool) (n : Nat) (w1 : World) : NowL dsc n [] [] w1 := ⟨rfl, StOk.nil _ _, fun r h => (by cases h), fun r h => (by cases h), fun r h => (by cases h), fun r h => (by cases h)⟩
section
variable {dsc : Bool} {n : Nat} {st : List PR} {ps : List PairV} {w1 : World}
theorem NowL.len (h : NowL dsc n st ps w1) : ps.length = st.length := by rw [← h.prs, List.length_map]
theorem NowL.get (h : NowL dsc n st ps w1) {i : Nat} {r : PairV} (hr : ps[i]? = some r) : st[i]? = some ⟨r.k, r.v⟩ := by rw [← h.prs, List.getElem?_map, hr]; rfl
theorem NowL.klen (h : NowL dsc n st ps w1) {r : PairV} (hr : r ∈ ps) : r.k.length = n := h.ok.len ⟨r.k, r.v⟩ (by rw [← h.prs]; exact List.mem_map.2 ⟨r, hr, rfl⟩)

/-- A place that was found: the place, and whether the key is there. -/
def Place (dsc : Bool) (n : Nat) (st : List PR) (K : List VV) (k : Nat) (there : Bool) : Prop := k ≤ st.length ∧ (K.length = n ∧ ConcL K → k = placeP dsc K st ∧ there = thereP dsc K st)

/-- What a comparison told: of a key it is what the order says. -/
def Told (dsc : Bool) (n : Nat) (K : List VV) (r : PairV) (c : Int) : Prop := K.length = n ∧ ConcL K → c = kc dsc r.k K

theorem place_of (h : NowL dsc n st ps w1) {K : List VV} {k : Nat} (hk : k ≤ ps.length) (h1 : ∀ (j : Nat) (r : PairV), j < k → ps[j]? = some r → ∃ c, Told dsc n K r c ∧ c < 0) (hcK : K.length = n ∧ ConcL K) (h2 : ∀ r, ps[k]? = some r → 0 ≤ kc dsc r.k K) : k = placeP dsc K st := by
  refine (placeP_eq (by rw [← h.len]; exact hk) (fun j x hj hx => ?_) (fun x hx => ?_)).symm
  · have hl : j < ps.length := by omega
    have hr := List.getElem?_eq_getElem hl
    obtain ⟨c, ht, hc⟩ := h1 j _ hj hr
    have e := ht hcK
    rw [h.get hr] at hx
    obtain rfl := Option.some.inj hx
    have := kc_anti dsc (ps[j]).k K
    simp only at this ⊢
    omega
  · have hl : k < ps.length := by rw [h.len]; exact (List.getElem?_eq_some_iff.1 hx).1
    have hr := List.getElem?_eq_getElem hl
    have e := h2 _ hr
    rw [h.get hr] at hx
    obtain rfl := Option.some.inj hx
    have := kc_anti dsc (ps[k]).k K
    simp only at this ⊢
    omega

theorem Place.end_ (h : NowL dsc n st ps w1) {K : List VV} {k : Nat} (hk : k = ps.length) (h1 : ∀ (j : Nat) (r : PairV), j < k → ps[j]? = some r → ∃ c, Told dsc n K r c ∧ c < 0) : Place dsc n st K k false := by
  refine ⟨by rw [← h.len]; omega, fun hcK => ?_⟩
  have e := place_of h (by omega) h1 hcK (fun r hr => by have := (List.getElem?_eq_some_iff.1 hr).1; omega)
  refine ⟨e, ?_⟩
  unfold thereP
  rw [← e, List.getElem?_eq_none (by rw [← h.len]; omega)]

theorem Place.here (h : NowL dsc n st ps w1) {K : List VV} {k : Nat} {r : PairV} (hr : ps[k]? = some r) (h1 : ∀ (j : Nat) (r : PairV), j < k → ps[j]? = some r → ∃ c, Told dsc n K r c ∧ c < 0) {c c2 : Int} (hc : Told dsc n K r c) (h0 : 0 ≤ c) (hc2 : Told dsc n K r c2) : Place dsc n st K k (c2 == 0) := by
  have hl := (List.getElem?_eq_some_iff.1 hr).1
  refine ⟨by rw [← h.len]; omega, fun hcK => ?_⟩
  have e := place_of h (by omega) h1 hcK (fun z hz => by
    rw [hr] at hz
    obtain rfl := Option.some.inj hz
    rw [← hc hcK]
    exact h0)
  refine ⟨e, ?_⟩
  unfold thereP
  rw [← e, h.get hr, hc2 hcK]
  simp only
  rw [kc_anti dsc r.k K]
  rw [Bool.eq_iff_iff]
  simp only [beq_iff_eq]
  omega

theorem Place.none (h1 : 1 ≤ n) {K : List VV} (hK : K.length = 0) : Place dsc n st K 0 false := ⟨Nat.zero_le _, fun hc => by have := hc.1; omega⟩

/-- A new pair in its place. -/
theorem NowL.ins (h : NowL dsc n st ps w1) {r : PairV} (hk : r.k.length = n) (hc : ConcL r.k) (hv : ConcL r.v) (hl : r.v.length ≤ 1000) (hat : LAt w1 r.kA r.k ∧ LAt w1 r.vA r.v) {N : Int} (ht : thereP dsc r.k st = false) {k : Nat} (hkp : k = placeP dsc r.k st) :
    NowL dsc n (nxtT dsc st ⟨.set, r.k, r.v, N⟩) (ps.take k ++ r :: ps.drop k) w1 := by
  have e : nxtT dsc st ⟨.set, r.k, r.v, N⟩ = st.take k ++ ⟨r.k, r.v⟩ :: st.drop k := by
    unfold nxtT
    simp only
    rw [← hkp, ht]
    split <;> rfl
  have hm : ∀ x, x ∈ ps.take k ++ r :: ps.drop k → x ∈ ps ∨ x = r := fun x hx => by
    rcases List.mem_append.1 hx with h | h
    · exact .inl (List.mem_of_mem_take h)
    · rcases List.mem_cons.1 h with h | h
      · exact .inr h
      · exact .inl (List.mem_of_mem_drop h)
  refine ⟨?_, nxtT_ok h.ok (fun _ => hk), fun x hx => ?_, fun x hx => ?_, fun x hx => ?_, fun x hx => ?_⟩
  · rw [e, ← h.prs]
    simp [List.map_take, List.map_drop, PairV.pr]
  · rcases hm x hx with h1 | rfl; exact h.ck x h1; exact hc
  · rcases hm x hx with h1 | rfl; exact h.cv x h1; exact hv
  · rcases hm x hx with h1 | rfl; exact h.lv x h1; exact hl
  · rcases hm x hx with h1 | rfl; exact h.at_ x h1; exact hat

/-- A value set. -/
theorem NowL.put (h : NowL dsc n st ps w1) {k : Nat} {r : PairV} (hr : ps[k]? = some r) {K V : List VV} {vA : Option Addr} {vc : Nat} {N : Int} (hK : K.length = n) (hv : ConcL V) (hl : V.length ≤ 1000) (hat : LAt w1 vA V) (ht : thereP dsc K st = true) (hkp : k = placeP dsc K st) :
    NowL dsc n (nxtT dsc st ⟨.set, K, V, N⟩) (ps.set k ⟨r.kA, r.kc, r.k, vA, vc, V⟩) w1 := by
  have e : nxtT dsc st ⟨.set, K, V, N⟩ = st.set k ⟨r.k, V⟩ := by
    unfold nxtT
    simp only
    rw [← hkp, ht, h.get hr]
    rfl
  have hrm := List.mem_of_getElem? hr
  have hm : ∀ x, x ∈ ps.set k ⟨r.kA, r.kc, r.k, vA, vc, V⟩ → x ∈ ps ∨ x = ⟨r.kA, r.kc, r.k, vA, vc, V⟩ := fun x hx => List.mem_or_eq_of_mem_set hx
  refine ⟨?_, nxtT_ok h.ok (fun _ => hK), fun x hx => ?_, fun x hx => ?_, fun x hx => ?_, fun x hx => ?_⟩
  · rw [e, ← h.prs, List.map_set]
    rfl
  · rcases hm x hx with h1 | rfl; exact h.ck x h1; exact h.ck r hrm
  · rcases hm x hx with h1 | rfl; exact h.cv x h1; exact hv
  · rcases hm x hx with h1 | rfl; exact h.lv x h1; exact hl
  · rcases hm x hx with h1 | rfl; exact h.at_ x h1; exact ⟨(h.at_ r hrm).1, hat⟩

/-- A pair taken away. -/
theorem NowL.erase (h : NowL dsc n st ps w1) {K V : List VV} {N : Int} (hK : K.length = n) {k : Nat} (ht : thereP dsc K st = true) (hkp : k = placeP dsc K st) :
    NowL dsc n (nxtT dsc st ⟨.delete, K, V, N⟩) (ps.take k ++ ps.drop (k + 1)) w1 := by
  have e : nxtT dsc st ⟨.delete, K, V, N⟩ = st.take k ++ st.drop (k + 1) := by
    unfold nxtT
    simp only
    rw [ht, if_pos rfl, ← hkp, List.eraseIdx_eq_take_drop_succ]
  have hm : ∀ x, x ∈ ps.take k ++ ps.drop (k + 1) → x ∈ ps := fun x hx => by
    rcases List.mem_append.1 hx with h | h
    · exact List.mem_of_mem_take h
    · exact List.mem_of_mem_drop h
  refine ⟨?_, nxtT_ok h.ok (fun _ => hK), fun x hx => h.ck x (hm x hx), fun x hx => h.cv x (hm x hx), fun x hx => h.lv x (hm x hx), fun x hx => h.at_ x (hm x hx)⟩
  rw [e, ← h.prs]
  simp [List.map_take, List.map_drop]
theorem NowL.same (h : NowL dsc n st ps w1) {x : TD} (he : nxtT dsc st x = st) : NowL dsc n (nxtT dsc st x) ps w1 := by rw [he]; exact h
end

/-- Pairs that came out of a tree are the same as those that the law has. -/
theorem same_of_out {dsc : Bool} {n : Nat} {st : List PR} {ps : List PairV} {w1 : World} (h : NowL dsc n st ps w1) (hn : n ≤ 1000) {rs qs : List PairV} (ho : PairsOut (qs.map PairV.pr) rs) (hq : ∀ r ∈ qs, r ∈ ps) : SamePs rs qs := by
  refine ⟨by rw [ho.1, List.length_map], fun i x y hx hy => ?_⟩
  have hp : (qs.map PairV.pr)[i]? = some ⟨y.k, y.v⟩ := by rw [List.getElem?_map, hy]; rfl
  obtain ⟨hk, hv⟩ := ho.2 i _ x hp hx
  have hym := hq y (List.mem_of_getElem? hy)
  have ck := h.ck y hym
  have cv := h.cv y hym
  have hkl := h.klen hym
  have hvl := h.lv y hym
  have e1 : x.k.length = y.k.length := hk.1
  have e2 : x.v.length = y.v.length := hv.1
  exact ⟨e1, hk.conc ck, ck, hk.kc ck false, hv.same cv, by omega, by omega⟩

end Go.Proofs.YtffgkocokkhahaaDoor

/- A comparison that tells some number. PRINTED BY wip/tpl/gen_ycs.py. -/
namespace Go.Proofs.YtffgkocokkhahaaDoor
open Go.RowKit

/-- Some number. -/
def SomeC (w : World) (e : Ending) (w' : World) : Prop := ∃ c : Int, e = .returned (.int .i64 c) ∧ Below w.heap.size w w'

end Go.Proofs.YtffgkocokkhahaaDoor
