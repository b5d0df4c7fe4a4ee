/-
  A row put among rows; rows in order. No program. || Deeds to an index and their answers, in memory. || The package-level error of division by zero, and the number that an error gets: not 0. It needs that the variable holds what the program's text lays into it. || impl.fault, deferred, in a frame that returns: recover finds nothing. || impl.indexDeed: "create" of a row. || impl.indexDeed: "first" and "last". || impl.Index: what holds between its deeds. || impl.Index of an index that is not unique: rows that are created, then what is found from its ends. || laws.zzFits16 (as Sl7, without impl.KeyCompare); a list of one value in new memory. || laws.zzFits17, laws.isKey, laws.filled. || laws.ahead; laws.back. || laws.sorted: rows put in order by hand. PRINTED BY wip/tpl/gen_xlt.py. || laws.keeps: an index has what was put into it.
-/
import Derived.Test.YtffgkocokkhahaaGreatDoorIxo17
import Derived.Test.YtffgkocokkhahaaGreatDoorIxo07
import Derived.LaidEql
import Derived.Test.YtffgkocokkhahaaGreatDoorIxo01
import Derived.Defers
import Derived.Recover
import Derived.Deep.RegionHeld3
import Derived.Test.YtffgkocokkhahaaGreatDoorIxo10
import Derived.Deep.RegionLaw
import Derived.Deep.AppendLies
import Derived.StillTailTactics

/- A row put among rows; rows in order. No program. -/
namespace Go.Proofs.YtffgkocokkhahaaGreatDoor
open Go.RowKit

theorem ins_cells {rows : List RowV} {r : RowV} {zc rest : List Value} (hz : zc.length = 2) {k : Nat} (hk : k ≤ rows.length) :
    splice (splice (flat RowV.cells rows ++ (zc ++ rest)) ((k + 1) * 2) (flat RowV.cells (rows.drop k))) (k * 2) r.cells = flat RowV.cells (rows.take k ++ r :: rows.drop k) ++ rest := by
  have hT : (flat RowV.cells (rows.take k)).length = k * 2 := by rw [flat_length RowV.cells 2 RowV.two, List.length_take]; omega
  have e1 : flat RowV.cells rows = flat RowV.cells (rows.take k) ++ flat RowV.cells (rows.drop k) := by rw [← flat_append, List.take_append_drop]
  rw [flat_append, flat_cons, e1]
  generalize flat RowV.cells (rows.take k) = T at *
  generalize flat RowV.cells (rows.drop k) = D at *
  have e2 : T ++ D ++ (zc ++ rest) = (T ++ (D ++ zc).take 2) ++ ((D ++ zc).drop 2 ++ rest) := by
    have : (D ++ zc).take 2 ++ ((D ++ zc).drop 2 ++ rest) = D ++ (zc ++ rest) := by rw [← List.append_assoc, List.take_append_drop, List.append_assoc]
    rw [List.append_assoc, List.append_assoc, this]
  have h2 : ((D ++ zc).take 2).length = 2 := by simp [hz]
  have h3 : ((D ++ zc).drop 2).length = D.length := by simp [hz]
  rw [e2, splice_mid _ _ _ D _ (by simp only [List.length_append, h2, hT]; omega) h3, List.append_assoc, splice_mid T _ (D ++ rest) r.cells _ hT.symm (by rw [h2]; rfl)]
  simp

theorem map_key_insR {rows : List RowV} {r : RowV} {g : Nat} : (rows.take g ++ r :: rows.drop g).map RowV.key = (rows.map RowV.key).take g ++ r.key :: (rows.map RowV.key).drop g := by simp [List.map_take, List.map_drop]

/-- Rows of as many values each, which can be compared; no two of one handle. -/
structure RowsGood (rows : List RowV) (n : Nat) : Prop where
  keys : KeysOk (rows.map RowV.key) n
  conc : ∀ r ∈ rows, ConcL r.us
  lo : ∀ r ∈ rows, 1 ≤ r.h
  hi : ∀ r ∈ rows, r.h ≤ 9223372036854775807

theorem RowsGood.len {rows : List RowV} {n : Nat} (h : RowsGood rows n) {r : RowV} (hr : r ∈ rows) : r.us.length = n := h.keys.len r.key (List.mem_map.2 ⟨r, hr, rfl⟩)

end Go.Proofs.YtffgkocokkhahaaGreatDoor

/- Deeds to an index and their answers, in memory. -/
namespace Go.Proofs.YtffgkocokkhahaaGreatDoor
open Go.RowKit

def createS : ByteArray := ⟨#[99, 114, 101, 97, 116, 101]⟩
def firstS : ByteArray := ⟨#[102, 105, 114, 115, 116]⟩
def lastS : ByteArray := ⟨#[108, 97, 115, 116]⟩

structure DeedV where
  op : ByteArray
  A : Option Addr
  c : Nat
  h : Int
  N : Int
  us : List VV
def DeedV.cells (d : DeedV) : List Value := [.string d.op, .slice d.A d.us.length d.c, .int .i64 d.h, .int .i64 d.N]
theorem DeedV.four (d : DeedV) : d.cells.length = 4 := rfl

def RowV.deed (r : RowV) : DeedV := ⟨createS, r.A, r.c, r.h, 0, r.us⟩
def endDeed (N : Int) (b : Bool) : DeedV := ⟨if b then firstS else lastS, none, 0, 0, N, []⟩

/-- Deeds lie in memory, each with its values. -/
def DeedsAt (w : World) (A : Option Addr) (ds : List DeedV) : Prop :=
  ∀ (i : Nat) (d : DeedV), ds[i]? = some d → (∃ ad, A = some ad ∧ (ad.add (i * 4)).block < w.heap.size ∧ w.cell? (ad.add (i * 4)) = some (.string d.op) ∧ w.cell? ⟨(ad.add (i * 4)).block, (ad.add (i * 4)).off + 1, none⟩ = some (.slice d.A d.us.length d.c) ∧
    w.cell? ⟨(ad.add (i * 4)).block, (ad.add (i * 4)).off + 2, none⟩ = some (.int .i64 d.h) ∧ w.cell? ⟨(ad.add (i * 4)).block, (ad.add (i * 4)).off + 3, none⟩ = some (.int .i64 d.N)) ∧ LAt w d.A d.us

theorem DeedsAt.below {w w' : World} {A : Option Addr} {ds : List DeedV} (h : DeedsAt w A ds) (hb : Below w.heap.size w w') : DeedsAt w' A ds := by
  intro i r hr
  obtain ⟨⟨ad, rfl, hlt, h0, h1, h2, h3⟩, hl⟩ := h i r hr
  refine ⟨⟨ad, rfl, Nat.lt_of_lt_of_le hlt hb.size, ?_, ?_, ?_, ?_⟩, hl.below hb⟩
  all_goals (rw [hb.cell (by exact hlt)]; assumption)

theorem deeds_reads {w : World} {A : Option Addr} {ds : List DeedV} {n : Nat} (h : Reads w w.heap.size 4 A n (flat DeedV.cells ds)) (hn : ds.length = n) (hv : ∀ d ∈ ds, LAt w d.A d.us) : DeedsAt w A ds := by
  intro i r hr
  have hi := (List.getElem?_eq_some_iff.1 hr).1
  obtain ⟨ad, rfl, hlt, hc⟩ := h.2 (by omega)
  have hat : ∀ (j : Nat) (v : Value), j < 4 → r.cells[j]? = some v → w.cell? (ad.add (i * 4 + j)) = some v := fun j v hj hv => hc _ _ (flat_at DeedV.cells 4 DeedV.four ds i r j v hr hj hv)
  refine ⟨⟨ad, rfl, by rw [block_add]; exact hlt, hat 0 _ (by omega) rfl, ?_, ?_, ?_⟩, hv r (List.mem_of_getElem? hr)⟩
  · rw [← add_off ad (i * 4) 1 (by decide)]; exact hat 1 _ (by omega) rfl
  · rw [← add_off ad (i * 4) 2 (by decide)]; exact hat 2 _ (by omega) rfl
  · rw [← add_off ad (i * 4) 3 (by decide)]; exact hat 3 _ (by omega) rfl

structure AnsV where
  R : Value
  rs : List RowV
def AnsV.cells (a : AnsV) : List Value := [.int .i64 0, .bool false, a.R]
theorem AnsV.three (a : AnsV) : a.cells.length = 3 := rfl

/-- An answer's memory lies among D. -/
structure AnsIn (D : Nat → Prop) (a : AnsV) : Prop where
  R : ∀ b, a.R.ownBlock = some b → D b
  rs : ∀ r ∈ a.rs, ∀ b, (Value.slice r.A r.us.length r.c).ownBlock = some b → D b
theorem AnsIn.mono {D E : Nat → Prop} {a : AnsV} (h : AnsIn D a) (hn : ∀ k, D k → E k) : AnsIn E a := ⟨fun b hb => hn b (h.R b hb), fun r hr b hb => hn b (h.rs r hr b hb)⟩

theorem AnsRows.in_ {B : Nat} {w : World} {ks : List Key} {a : AnsV} (h : AnsRows B w ks a.R a.rs) : AnsIn (fun k => B ≤ k ∧ k < w.heap.size) a := by
  refine ⟨fun b hb => ⟨own_ge h.own hb, own_lt h.own hb⟩, fun r hr b hb => ?_⟩
  obtain ⟨i, hi, rfl⟩ := List.getElem_of_mem hr
  have hi2 : i < ks.length := by rw [← h.len]; exact hi
  have := h.rows i ks[i] _ (List.getElem?_eq_getElem hi2) (List.getElem?_eq_getElem hi)
  exact ⟨own_ge this.own hb, own_lt this.own hb⟩
theorem AnsRows.keep {B : Nat} {S D : Nat → Prop} {w w' : World} {ks : List Key} {a : AnsV} (h : AnsRows B w ks a.R a.rs) (hi : AnsIn D a) (hc : Chg S w w') (hn : ∀ k, D k → ¬ S k) : AnsRows B w' ks a.R a.rs :=
  ⟨h.len, own_chg h.own hc (fun b hb => hn b (hi.R b hb)), fun j k r hk hr => (h.rows j k r hk hr).chg hc (fun b hb => hn b (hi.rs r (List.mem_of_getElem? hr) b hb))⟩
theorem AnsRows.mono {B C : Nat} {w : World} {ks : List Key} {R : Value} {rs : List RowV} (h : AnsRows B w ks R rs) (hb : C ≤ B) : AnsRows C w ks R rs :=
  ⟨h.len, own_mono h.own hb, fun j k r hk hr => by have g := h.rows j k r hk hr; exact ⟨g.h, g.len, g.outs, own_mono g.own hb⟩⟩

def want (ks : List Key) (b : Bool) : List Key := if b then sortK ks else (sortK ks).reverse

/-- The answers to so many deeds: each row created, then what is found from the ends. -/
structure Answers (B : Nat) (w : World) (ks : List Key) (tl : List Bool) (av : List AnsV) : Prop where
  nil : ∀ (j : Nat) (a : AnsV), j < ks.length → av[j]? = some a → a.R = .slice none 0 0
  rows : ∀ (j : Nat) (b : Bool) (a : AnsV), tl[j]? = some b → av[ks.length + j]? = some a → AnsRows B w (want ks b) a.R a.rs

theorem want_length (ks : List Key) (b : Bool) : (want ks b).length = ks.length := by unfold want; split <;> simp [length_sortK]

end Go.Proofs.YtffgkocokkhahaaGreatDoor

/- The package-level error of division by zero, and the number that an error gets: not 0. It needs that the variable holds what the program's text lays into it. -/
namespace Go.Proofs.YtffgkocokkhahaaGreatDoor
open Go.RowKit

/-- An error of package errors lies in memory. -/
def Er (w : World) (p : Addr) : Prop := ∃ (c : Array Value) (t : TypeId), w.heap[p.block]? = some (.cells c t (0, 0))

theorem Er.of {w w' : World} {p : Addr} (h : Er w p) (hb : Below w.heap.size w w') : Er w' p := by
  obtain ⟨c, t, h⟩ := h
  have hlt : p.block < w.heap.size := by
    rcases Nat.lt_or_ge p.block w.heap.size with h' | h'
    · exact h'
    · rw [Array.getElem?_eq_none h'] at h; cases h
  exact ⟨c, t, by rw [hb.block _ hlt]; exact h⟩

/-- The variable holds an error of package errors. -/
structure Has (w : World) (a : Addr) : Prop where
  lt : 0 < w.heap.size
  cell : w.cell? ⟨0, 0, none⟩ = some (.iface 194 (.pointer (some a)))
  er : Er w a

theorem Has.of {w w' : World} {a : Addr} (h : Has w a) (hb : Below w.heap.size w w') : Has w' a where
  lt := Nat.lt_of_lt_of_le h.lt hb.size
  cell := by rw [hb.cell (p := ⟨0, 0, none⟩) h.lt]; exact h.cell
  er := h.er.of hb

theorem erComp : (Tryz.prog.info? 194).map (·.comparable) = some true := by kernel_rfl
theorem erSize : (Tryz.prog.info? 196).map (fun i => i.size == 0) = some false := by kernel_rfl

theorem eql_same (a : Addr) (w : World) : (binOp .eql 69 (.iface 194 (.pointer (some a))) (.iface 194 (.pointer (some a)))).run Tryz.prog w = .ok (.bool true) w := by
  obtain ⟨i, hi, hcmp⟩ := Option.map_eq_some_iff.1 erComp
  obtain ⟨j, hj, hjs⟩ := Option.map_eq_some_iff.1 erSize
  exact run_eql_iface_ptr_same w a Tryz.underlying69 Tryz.underlying194 hi hcmp hj

theorem eql_other (a b : Addr) (w : World) (hne : b ≠ a) (ha : Er w a) (hb : Er w b) : (binOp .eql 69 (.iface 194 (.pointer (some b))) (.iface 194 (.pointer (some a)))).run Tryz.prog w = .ok (.bool false) w := by
  obtain ⟨i, hi, hcmp⟩ := Option.map_eq_some_iff.1 erComp
  obtain ⟨j, hj, hjs⟩ := Option.map_eq_some_iff.1 erSize
  obtain ⟨ca, ta, ha⟩ := ha
  obtain ⟨cb, tb, hb⟩ := hb
  exact run_eql_iface_ptr_other w Tryz.underlying69 Tryz.underlying194 hi hcmp hj (beq_eq_false_iff_ne.1 hjs) hne hb ha

set_option maxRecDepth 100000 in
set_option maxHeartbeats 1000000 in
theorem zzErr_nil (w : World) : Calls Tryz.prog 37 #[.nilIface] w fun e w' => e = .returned (.int .i64 0) ∧ w = w' := by
  go_enter Tryz.func37, Tryz.ntmps37
  go_wp2
  go_ret
  exact ⟨rfl, rfl⟩

@[go_sem] theorem as_dup (v : Value) (w : World) : (Instr.typeAssert (.iface 194 v) 69 133 true).run Tryz.prog w = .ok (.tuple #[.slice none 0 0, .bool false]) w := by kernel_rfl

/-- Of an error of package errors the number is not 0. -/
def CodePost (w : World) (e : Ending) (w' : World) : Prop := ∃ c : Int, e = .returned (.int .i64 c) ∧ c ≠ 0 ∧ w = w'

set_option maxRecDepth 100000 in
set_option maxHeartbeats 1000000 in
theorem zzErr_some (a b : Addr) (w : World) (h : Has w a) (hb : Er w b) : Calls Tryz.prog 37 #[.iface 194 (.pointer (some b))] w (CodePost w) := by
  have hc := h.cell
  by_cases hab : b = a
  · have hq := eql_same a w
    subst hab
    clear h hb
    go_enter Tryz.func37, Tryz.ntmps37
    go_wp2
    go_ret
    exact ⟨_, rfl, by decide, rfl⟩
  · have hq := eql_other a b w hab h.er hb
    clear h hb
    go_enter Tryz.func37, Tryz.ntmps37
    go_wp2
    go_ret
    exact ⟨_, rfl, by decide, rfl⟩

/-- An error of package errors is returned; what was there is as it was. -/
def ErPost (w : World) (e : Ending) (w' : World) : Prop := ∃ p, e = .returned (.iface 194 (.pointer (some p))) ∧ Er w' p ∧ Below w.heap.size w w'

theorem er_alloc (w : World) (c : Array Value) (t : TypeId) : Er (w.alloc (.cells c t)) ⟨w.heap.size, 0, none⟩ := ⟨c, t, by show (w.heap.push (.cells c t))[w.heap.size]? = _; simp⟩

set_option maxHeartbeats 400000 in
theorem errNew_er (s : ByteArray) (w : World) : Calls Tryz.prog 70 #[.string s] w (ErPost w) := by
  go_enter Tryz.func70, Tryz.ntmps70
  go_wp2
  go_ret
  exact ⟨_, rfl, er_alloc _ _ _, by repeat (first | exact Below.refl _ _ | exact (Below.refl _ _).alloc (Nat.le_refl _) _ | refine Below.drew ?_ | refine Below.setCell ?_ (by first | omega | (simp; omega) | simp) _ | refine Below.alloc ?_ (by first | omega | (simp; omega) | simp) _ | refine below_drewN ?_ _ | refine up_below ?_ (Nat.le_refl _) (by assumption))⟩

end Go.Proofs.YtffgkocokkhahaaGreatDoor

/- impl.fault, deferred, in a frame that returns: recover finds nothing. -/
namespace Go.Proofs.YtffgkocokkhahaaGreatDoor
open Go.RowKit

theorem fault_idle (p : Addr) (w : World) :
    CallsD Tryz.prog 36 #[.pointer (some p)] .returning w fun e u' w' => e = .returned (.tuple #[]) ∧ u' = .returning ∧ w' = w := by
  refine callsD_of_wpS Tryz.func36 rfl fun c₀ cs hu => ?_
  apply wpS_seq
  apply wpS_region
  simp [wpOpsS, go_sem, recoverD, hu, Tryz.ntmps36, Exit.thenS]
  refine wpS_cond (t := false) (by simp [Act.eval, Array.replicate]) ?_
  simp only [Bool.false_eq_true, if_false]
  refine wpS_of_wp (wp_skip ?_)
  cases c₀
  simp_all [bodyPostS, results, Tryz.results36]

end Go.Proofs.YtffgkocokkhahaaGreatDoor

/- impl.indexDeed: "create" of a row. -/
namespace Go.Proofs.YtffgkocokkhahaaGreatDoor
open Go.RowKit

theorem insD_of {B : Nat} {w : World} {us : List VV} {A : Option Addr} {vs : List Value} (hr : Reads w w.heap.size 1 A us.length vs) (hk : RepK w us us.length vs) (hrow : ∀ ad, A = some ad → B ≤ ad.block) (hval : ∀ (j : Nat) (v : Value), vs[j]? = some v → From B v) (h0 : 0 < us.length) :
    InsD (fun k => B ≤ k ∧ k < w.heap.size) w us A vs := by
  refine ⟨hr, hk, fun ad e => ⟨hrow ad e, ?_⟩, fun j v hv t a n c e => ⟨hval j v hv t a n c e, ?_⟩⟩
  · obtain ⟨ad', e', hlt, _⟩ := hr.2 h0
    rw [e] at e'
    obtain rfl := Option.some.inj e'
    exact hlt
  · have hj : j < us.length := by
      have := (List.getElem?_eq_some_iff.1 hv).1
      rw [hk.1] at this
      exact this
    obtain ⟨y, _, hy⟩ := hk.2 j _ v (List.getElem?_eq_getElem hj) hv
    exact rep_lt hy e

def DeedCreateP (x n : Nat) (ks : List Key) (M D : Nat → Prop) (w : World) (y : Ending) (w' : World) : Prop :=
  y = .returned (.agg #[.int .i64 0, .bool false, .slice none 0 0]) ∧ ∃ M' D', Ix x n ks M' D' w' ∧ Chg M w w' ∧ (∀ k, D k → D' k) ∧ (∀ k, M' k → M k ∨ w.heap.size ≤ k) ∧ ∀ k, D' k → D k ∨ w.heap.size ≤ k

theorem deed_fin {x n : Nat} {ks ks' : List Key} {M M' D : Nat → Prop} {w w1 w2 W : World} {B : Nat} (HIX : Ix x n ks M D w) (HB1 : Below w.heap.size w w1) (HX2 : Ix x (n + 1) ks' M' (fun k => D k ∨ (B ≤ k ∧ k < w1.heap.size)) w2) (HC2 : Chg M w1 w2) (HM2 : ∀ k, M' k → M k ∨ w1.heap.size ≤ k) (hB : w.heap.size + 2 ≤ B) (hB1 : B ≤ w1.heap.size) (hW : Chg (fun k => k = w.heap.size + 1) w2 W) :
    ∃ M' D', Ix x (n + 1) ks' M' D' W ∧ Chg M w W ∧ (∀ k, D k → D' k) ∧ (∀ k, M' k → M k ∨ w.heap.size ≤ k) ∧ ∀ k, D' k → D k ∨ w.heap.size ≤ k := by
  have hs := HB1.size
  refine ⟨M', fun k => D k ∨ (B ≤ k ∧ k < w1.heap.size), HX2.chg hW (fun k hk e => ?_) (fun k hk e => ?_), ?_, fun k h => .inl h, fun k hk => (HM2 k hk).imp id (fun h => by omega), fun k hk => hk.imp id (fun h => by omega)⟩
  · rcases HM2 k hk with h | h
    · have := HIX.lt h; omega
    · omega
  · rcases hk with h | h
    · have := (HIX.data k h).1; omega
    · omega
  · exact ((Chg.of_below HB1).next HC2 (fun k _ h => h)).next hW (fun k h e => by omega)

set_option maxRecDepth 100000 in
set_option maxHeartbeats 3200000 in
theorem deed_create {x n nn : Nat} {ks : List Key} {M D : Nat → Prop} {w : World} (h : Ix x n ks M D w) {us : List VV} {A : Option Addr} {c : Nat} {hd N : Int} (hA : LAt w A us) (hu : ConcL us) (h0 : 0 ≤ hd) (h1 : hd ≤ 9223372036854775807) (hn : n ≤ 100000) (hlen : ks.length ≤ 12800)
    (hus : us.length = nn) (hks : ∀ k ∈ ks, k.l.length = nn) (hnn : nn ≤ 1000) (hn0 : 0 < nn) {g : Nat} (hp : Pos (signK ⟨us, hd⟩ ks) ks.length g false) :
    Calls Tryz.prog 26 #[.pointer (some ⟨x, 0, none⟩), .agg #[.string ⟨#[99, 114, 101, 97, 116, 101]⟩, .slice A us.length c, .int .i64 hd, .int .i64 N]] w (DeedCreateP x (n + 1) (insK ⟨us, hd⟩ ks) M D w) := by
  have HIX := Lib.hid h
  have HI : Hid (∀ w', Below w.heap.size w w' → Calls Tryz.prog 39 #[.slice A us.length c] w' (InsPost2 us w')) := Lib.hid (fun w' hb => ins2_all us A c w' (hA.below hb) hu.good (by omega))
  have HC : Hid (∀ (D' : Nat → Prop) (w' : World) (A' : Option Addr) (c' : Nat) (vs : List Value), Ix x n ks M D' w' → InsD D' w' us A' vs → Calls Tryz.prog 38 #[.pointer (some ⟨x, 0, none⟩), .slice A' us.length c', .int .i64 hd] w' (IxCreateP x (n + 1) (insK ⟨us, hd⟩ ks) M D' w')) :=
    Lib.hid (fun D' w' A' c' vs hix hI => ix_create hix hI hu h0 h1 hn hlen hus hks hnn hp)
  have HN : Hid (0 < us.length) := Lib.hid (by omega)
  clear h hA hu h0 h1 hn hlen hus hks hnn hn0 hp
  go_enter_defers Tryz.func26, Tryz.ntmps26
  go_wp2_with fail
  obtain ⟨W0, hW0⟩ : ∃ W0, W0 = (w.alloc (.cells #[.string ⟨#[99, 114, 101, 97, 116, 101]⟩, .slice A us.length c, .int .i64 hd, .int .i64 N] 43)).alloc (.cells #[.int .i64 0, .bool false, .slice none 0 0] 47) := ⟨_, rfl⟩
  rw [← hW0]
  have HK0 : Hid (W0.heap[w.heap.size]? = some (.cells #[.string ⟨#[99, 114, 101, 97, 116, 101]⟩, .slice A us.length c, .int .i64 hd, .int .i64 N] 43 (0, 0))) := Lib.hid (by rw [hW0]; exact (heap_alloc_ne _ _ _ (by simp)).trans (heap_new w _))
  have HR0 : Hid (W0.heap[w.heap.size + 1]? = some (.cells #[.int .i64 0, .bool false, .slice none 0 0] 47 (0, 0))) := Lib.hid (by rw [hW0]; have := heap_new (w.alloc (.cells #[.string ⟨#[99, 114, 101, 97, 116, 101]⟩, .slice A us.length c, .int .i64 hd, .int .i64 N] 43)) (.cells #[.int .i64 0, .bool false, .slice none 0 0] 47); simpa using this)
  have HB0 : Hid (Below w.heap.size w W0) := Lib.hid (hW0 ▸ below_al2 w _ _)
  have hs0 : W0.heap.size = w.heap.size + 2 := by rw [hW0]; simp
  have j1 := cell_of_heap HK0.out 1
  have j2 := cell_of_heap HK0.out 2
  clear hW0
  refine wp_region_noPanic ?_
  go_region_law
    (first
      | (go_simp; go_at_call 39
         refine (HI.out _ (by first | exact HB0.out | exact HB0.out.drew)).mono ?_
         rintro y w1 ⟨A1, c1, vs, rfl, hr1, hk1, hb1', hrow1, hval1⟩
         have hb1 : Below W0.heap.size W0 w1 := (by first | exact hb1' | exact ⟨hb1'.os, hb1'.tape, hb1'.output, hb1'.size, hb1'.block⟩)
         have HK1 := Lib.hid (heap_below HK0.out hb1)
         have HR1 := Lib.hid (heap_below HR0.out hb1)
         have HB1 : Hid (Below w.heap.size w w1) := Lib.hid (up_below HB0.out (Nat.le_refl _) hb1)
         have hs1 : w.heap.size + 2 ≤ w1.heap.size := lt_of_heap HR1.out
         have hX1 : Ix x n ks M (fun k => D k ∨ (w.heap.size + 2 ≤ k ∧ k < w1.heap.size)) w1 := (HIX.out.below HB1.out).more (fun k h => .inl h) (fun k hk => by
           rcases hk with hk | hk
           · exact ⟨Nat.lt_of_lt_of_le (HIX.out.data k hk).1 HB1.out.size, (HIX.out.data k hk).2⟩
           · exact ⟨hk.2, fun hM => by have := HIX.out.lt hM; omega⟩)
         have HX1 := Lib.hid hX1
         have hI1 : InsD (fun k => W0.heap.size ≤ k ∧ k < w1.heap.size) w1 us A1 vs := insD_of hr1 hk1 (fun ad e => hrow1 ad e) (fun j v hv => hval1 j v hv) HN.out
         have HI1 := Lib.hid (hI1.mono (E := fun k => D k ∨ (w.heap.size + 2 ≤ k ∧ k < w1.heap.size)) (fun k h => .inr (by omega)))
         have k2 := cell_of_heap HK1.out 2
         clear hX1 hI1 hr1 hk1 hb1 hb1' hrow1 hval1)
      | (go_simp; go_at_call 38
         refine (HC.out _ _ A1 c1 vs HX1.out HI1.out).mono ?_
         rintro y w2 ⟨rfl, M', hx2, hc2, hm2⟩
         have HX2 := Lib.hid hx2
         have HC2 := Lib.hid hc2
         have HM2 := Lib.hid hm2
         have HR2 := Lib.hid (heap_chg HR1.out hc2 (fun hM => absurd (HIX.out.lt hM) (by omega)))
         have r0 := cell_of_heap HR2.out 0
         have r1 := cell_of_heap HR2.out 1
         have r2 := cell_of_heap HR2.out 2
         have f0 := free_of_heap HR2.out 0
         have f1 := free_of_heap HR2.out 1
         have f2 := free_of_heap HR2.out 2
         clear hx2 hc2 hm2)
      | (go_simp; go_at_call 37
         refine (zzErr_nil _).mono ?_
         rintro y w3 ⟨rfl, rfl⟩))
  all_goals
    refine NoPanic.normal ?_
    go_wp2
    obtain ⟨W, hW⟩ : ∃ W, W = (((w2.setCell ⟨w.heap.size + 1, 0, none⟩ (.int .i64 0)).setCell ⟨w.heap.size + 1, 0, none⟩ (.int .i64 0)).setCell ⟨w.heap.size + 1, 1, none⟩ (.bool false)).setCell ⟨w.heap.size + 1, 2, none⟩ (.slice none 0 0) := ⟨_, rfl⟩
    rw [← hW]
    have hh : W.heap[w.heap.size + 1]? = some (.cells #[.int .i64 0, .bool false, .slice none 0 0] 47 (0, 0)) := by rw [hW, heap_setCell_at, heap_setCell_at, heap_setCell_at, heap_setCell_at, HR2.out]; rfl
    have d0 : W.cell? ⟨w.heap.size + 1, 0, none⟩ = some (.int .i64 0) := cell_of_heap hh 0
    have d1 : W.cell? ⟨w.heap.size + 1, 1, none⟩ = some (.bool false) := cell_of_heap hh 1
    have d2 : W.cell? ⟨w.heap.size + 1, 2, none⟩ = some (.slice none 0 0) := cell_of_heap hh 2
    have hc : Chg (fun k => k = w.heap.size + 1) w2 W := hW ▸ ((((Chg.refl (fun k => k = w.heap.size + 1) w2).setCell (p := ⟨w.heap.size + 1, _, none⟩) (.inl rfl) _).setCell (p := ⟨w.heap.size + 1, _, none⟩) (.inl rfl) _).setCell (p := ⟨w.heap.size + 1, _, none⟩) (.inl rfl) _).setCell (p := ⟨w.heap.size + 1, _, none⟩) (.inl rfl) _
    refine leaves_cons (f := 36) (args := #[.pointer (some ⟨w.heap.size + 1, 0, none⟩)]) (by simp) (by simp [go_sem]) ?_
    refine (fault_idle _ _).mono ?_
    rintro e u' w'' ⟨rfl, rfl, rfl⟩
    simp [Leaves, settle, results, Tryz.results26, go_sem, d0, d1, d2]
    exact ⟨rfl, deed_fin HIX.out HB1.out HX2.out HC2.out HM2.out (Nat.le_refl _) hs1 hc⟩

end Go.Proofs.YtffgkocokkhahaaGreatDoor

/- impl.indexDeed: "first" and "last". -/
namespace Go.Proofs.YtffgkocokkhahaaGreatDoor
open Go.RowKit

/-- What is told by an index's walk. -/
def SeekW (ks : List Key) (B : Nat) (w : World) (y : Ending) (w' : World) : Prop :=
  ∃ a : AnsV, y = .returned (.agg #[.int .i64 0, .bool false, a.R]) ∧ AnsRows w.heap.size w' ks a.R a.rs ∧ Below B w w'
def SeekG (ks : List Key) (N : Int) (nx : Bool) (w : World) (y : Ending) (w1 : World) : Prop :=
  ∃ it er, y = .returned (.tuple #[it, er]) ∧ Below w.heap.size w w1 ∧ ∀ w2, Below w1.heap.size w1 w2 → Calls Tryz.prog 45 #[it, er, .int .i64 N, .bool nx, .bool false] w2 (SeekW ks w.heap.size w2)

theorem seekG_of {ks : List Key} {N : Int} {nx : Bool} {w : World} {y : Ending} {w1 : World} (h : IxSeekP ks N nx w y w1) : SeekG ks N nx w y w1 := by
  obtain ⟨b, rfl, hlo, hb, hw⟩ := h
  refine ⟨_, _, rfl, hb, fun w2 hb2 => (hw w2 hb2).mono ?_⟩
  rintro y w' ⟨R, rs, rfl, ha, hc⟩
  exact ⟨⟨R, rs⟩, rfl, ha, hc.below (Nat.le_trans hb.size hb2.size) (fun k e => by rw [e]; exact hlo)⟩

theorem ansRows_nil (B : Nat) (w : World) : AnsRows B w [] (.slice none 0 0) [] := ⟨rfl, World.ownsRow_nil _ _ _ _, fun j k r h _ => by simp at h⟩

theorem seekG_none {N : Int} {nx : Bool} {w : World} {E : Value} (hE : HasEof w E) {y : Ending} {w1 : World} (h : y = .returned (.tuple #[.nilIface, E]) ∧ Below w.heap.size w w1) : SeekG [] N nx w y w1 := by
  obtain ⟨rfl, hb⟩ := h
  refine ⟨_, _, rfl, hb, fun w2 hb2 => (walk_none _ E N nx false w2 hE.form).mono ?_⟩
  rintro y w' ⟨rfl, hb3⟩
  exact ⟨⟨.slice none 0 0, []⟩, rfl, ansRows_nil _ _, hb3.mono (Nat.le_trans hb.size hb2.size)⟩

theorem ix_seek_first {x n : Nat} {ks : List Key} {M D : Nat → Prop} {w : World} (h : Ix x n ks M D w) {E : Value} (hE : HasEof w E) {N : Int} (hN : (ks.length : Int) ≤ N) (hN1 : N ≤ 1000000) :
    Calls Tryz.prog 44 #[.pointer (some ⟨x, 0, none⟩)] w (SeekG ks N true w) := by
  by_cases hks : ks = []
  · subst hks
    obtain ⟨m, t, r, L, S, es, hi, hm, he, hk, hdm⟩ := h.ex
    obtain rfl : es = [] := by simpa using he
    obtain ⟨ver, ht, _⟩ := tree_empty hi.tree
    exact (idx_first_none hi.idx ht rfl hE).mono fun y w1 h1 => seekG_none hE h1
  · exact (ix_first h hE hN hN1 hks).mono fun y w1 h1 => seekG_of h1

theorem ix_seek_last {x n : Nat} {ks : List Key} {M D : Nat → Prop} {w : World} (h : Ix x n ks M D w) {E : Value} (hE : HasEof w E) {N : Int} (hN : (ks.length : Int) ≤ N) (hN1 : N ≤ 1000000) :
    Calls Tryz.prog 46 #[.pointer (some ⟨x, 0, none⟩)] w (SeekG ks.reverse N false w) := by
  by_cases hks : ks = []
  · subst hks
    obtain ⟨m, t, r, L, S, es, hi, hm, he, hk, hdm⟩ := h.ex
    obtain rfl : es = [] := by simpa using he
    obtain ⟨ver, ht, _⟩ := tree_empty hi.tree
    exact (idx_last_none hi.idx ht rfl hE).mono fun y w1 h1 => seekG_none hE h1
  · exact (ix_last h hE hN hN1 hks).mono fun y w1 h1 => seekG_of h1

theorem seek_fin {ks : List Key} {w w1 w2 W : World} {R : Value} {rs : List RowV} (hb1 : Below w.heap.size w w1) (hs1 : w.heap.size + 2 ≤ w1.heap.size) (ha : AnsRows w1.heap.size w2 ks R rs) (hb2 : Below w.heap.size w1 w2) (hW : Chg (fun k => k = w.heap.size + 1) w2 W) : AnsRows w.heap.size W ks R rs ∧ Below w.heap.size w W := by
  have h1 : AnsRows w1.heap.size w2 ks (AnsV.mk R rs).R (AnsV.mk R rs).rs := ha
  have h2 := hb2.size
  exact ⟨(h1.keep h1.in_ hW (fun k hk e => by omega)).mono (by omega), (hb1.trans hb2).trans (hW.below (by omega) (fun k e => by omega))⟩

def DeedSeekP (ks : List Key) (w : World) (y : Ending) (w' : World) : Prop := ∃ a : AnsV, y = .returned (.agg #[.int .i64 0, .bool false, a.R]) ∧ AnsRows w.heap.size w' ks a.R a.rs ∧ Below w.heap.size w w'

set_option maxRecDepth 100000 in
set_option maxHeartbeats 3200000 in
theorem deed_first {x : Nat} {ks : List Key} {N : Int} {w : World} (HS : Hid (∀ w', Below w.heap.size w w' → Calls Tryz.prog 44 #[.pointer (some ⟨x, 0, none⟩)] w' (SeekG ks N true w'))) :
    Calls Tryz.prog 26 #[.pointer (some ⟨x, 0, none⟩), .agg #[.string ⟨#[102, 105, 114, 115, 116]⟩, .slice none 0 0, .int .i64 0, .int .i64 N]] w (DeedSeekP ks w) := by
  go_enter_defers Tryz.func26, Tryz.ntmps26
  go_wp2_with (first
    | (go_at_call 44
       refine (HS.out _ (below_al2 w _ _)).mono ?_
       rintro y w1 ⟨it, er, rfl, hb1, hw1⟩
       have HW1 := Lib.hid hw1
       have HK1 : Hid (w1.heap[w.heap.size]? = some (.cells #[.string ⟨#[102, 105, 114, 115, 116]⟩, .slice none 0 0, .int .i64 0, .int .i64 N] 43 (0, 0))) := Lib.hid (heap_below ((heap_alloc_ne _ _ _ (by simp)).trans (heap_new w _)) hb1)
       have HR1 : Hid (w1.heap[w.heap.size + 1]? = some (.cells #[.int .i64 0, .bool false, .slice none 0 0] 47 (0, 0))) := Lib.hid (heap_below (by have := heap_new (w.alloc (.cells #[.string ⟨#[102, 105, 114, 115, 116]⟩, .slice none 0 0, .int .i64 0, .int .i64 N] 43)) (.cells #[.int .i64 0, .bool false, .slice none 0 0] 47); simpa using this) hb1)
       have HB1 : Hid (Below w.heap.size w w1) := Lib.hid (up_below (below_al2 w _ _) (Nat.le_refl _) hb1)
       have hs1 : w.heap.size + 2 ≤ w1.heap.size := lt_of_heap HR1.out
       have k3 := cell_of_heap HK1.out 3
       clear hw1 hb1)
    | (go_at_call 45
       refine (HW1.out _ (Below.refl _ _)).mono ?_
       rintro y w2 ⟨⟨R, rs⟩, rfl, ha2, hb2⟩
       obtain ⟨A', c', hRR⟩ := own_form ha2.own
       simp only at hRR
       subst hRR
       have HA2 := Lib.hid ha2
       have HB2 : Hid (Below (w.heap.size + 2) w1 w2) := Lib.hid (by simpa using hb2)
       have HR2 : Hid (w2.heap[w.heap.size + 1]? = some (.cells #[.int .i64 0, .bool false, .slice none 0 0] 47 (0, 0))) := Lib.hid ((HB2.out.block _ (by omega)).trans HR1.out)
       have r0 := cell_of_heap HR2.out 0
       have r1 := cell_of_heap HR2.out 1
       have r2 := cell_of_heap HR2.out 2
       have f0 := free_of_heap HR2.out 0
       have f1 := free_of_heap HR2.out 1
       have f2 := free_of_heap HR2.out 2
       clear ha2 hb2))
  obtain ⟨W, hW⟩ : ∃ W, W = ((w2.setCell ⟨w.heap.size + 1, 0, none⟩ (.int .i64 0)).setCell ⟨w.heap.size + 1, 1, none⟩ (.bool false)).setCell ⟨w.heap.size + 1, 2, none⟩ (.slice A' ks.length c') := ⟨_, rfl⟩
  rw [← hW]
  have hh : W.heap[w.heap.size + 1]? = some (.cells #[.int .i64 0, .bool false, .slice A' ks.length c'] 47 (0, 0)) := by rw [hW, heap_setCell_at, heap_setCell_at, heap_setCell_at, HR2.out]; rfl
  have d0 : W.cell? ⟨w.heap.size + 1, 0, none⟩ = some (.int .i64 0) := cell_of_heap hh 0
  have d1 : W.cell? ⟨w.heap.size + 1, 1, none⟩ = some (.bool false) := cell_of_heap hh 1
  have d2 : W.cell? ⟨w.heap.size + 1, 2, none⟩ = some (.slice A' ks.length c') := cell_of_heap hh 2
  have hc : Chg (fun k => k = w.heap.size + 1) w2 W := hW ▸ (((Chg.refl (fun k => k = w.heap.size + 1) w2).setCell (p := ⟨w.heap.size + 1, _, none⟩) (.inl rfl) _).setCell (p := ⟨w.heap.size + 1, _, none⟩) (.inl rfl) _).setCell (p := ⟨w.heap.size + 1, _, none⟩) (.inl rfl) _
  refine leaves_cons (f := 36) (args := #[.pointer (some ⟨w.heap.size + 1, 0, none⟩)]) (by simp) (by simp [go_sem]) ?_
  refine (fault_idle _ _).mono ?_
  rintro e u' w'' ⟨rfl, rfl, rfl⟩
  simp [Leaves, settle, results, Tryz.results26, go_sem, d0, d1, d2]
  exact ⟨⟨.slice A' ks.length c', rs⟩, rfl, seek_fin HB1.out hs1 HA2.out (HB2.out.mono (by omega)) hc⟩

set_option maxRecDepth 100000 in
set_option maxHeartbeats 3200000 in
theorem deed_last {x : Nat} {ks : List Key} {N : Int} {w : World} (HS : Hid (∀ w', Below w.heap.size w w' → Calls Tryz.prog 46 #[.pointer (some ⟨x, 0, none⟩)] w' (SeekG ks N false w'))) :
    Calls Tryz.prog 26 #[.pointer (some ⟨x, 0, none⟩), .agg #[.string ⟨#[108, 97, 115, 116]⟩, .slice none 0 0, .int .i64 0, .int .i64 N]] w (DeedSeekP ks w) := by
  go_enter_defers Tryz.func26, Tryz.ntmps26
  go_wp2_with (first
    | (go_at_call 46
       refine (HS.out _ (below_al2 w _ _)).mono ?_
       rintro y w1 ⟨it, er, rfl, hb1, hw1⟩
       have HW1 := Lib.hid hw1
       have HK1 : Hid (w1.heap[w.heap.size]? = some (.cells #[.string ⟨#[108, 97, 115, 116]⟩, .slice none 0 0, .int .i64 0, .int .i64 N] 43 (0, 0))) := Lib.hid (heap_below ((heap_alloc_ne _ _ _ (by simp)).trans (heap_new w _)) hb1)
       have HR1 : Hid (w1.heap[w.heap.size + 1]? = some (.cells #[.int .i64 0, .bool false, .slice none 0 0] 47 (0, 0))) := Lib.hid (heap_below (by have := heap_new (w.alloc (.cells #[.string ⟨#[108, 97, 115, 116]⟩, .slice none 0 0, .int .i64 0, .int .i64 N] 43)) (.cells #[.int .i64 0, .bool false, .slice none 0 0] 47); simpa using this) hb1)
       have HB1 : Hid (Below w.heap.size w w1) := Lib.hid (up_below (below_al2 w _ _) (Nat.le_refl _) hb1)
       have hs1 : w.heap.size + 2 ≤ w1.heap.size := lt_of_heap HR1.out
       have k3 := cell_of_heap HK1.out 3
       clear hw1 hb1)
    | (go_at_call 45
       refine (HW1.out _ (Below.refl _ _)).mono ?_
       rintro y w2 ⟨⟨R, rs⟩, rfl, ha2, hb2⟩
       obtain ⟨A', c', hRR⟩ := own_form ha2.own
       simp only at hRR
       subst hRR
       have HA2 := Lib.hid ha2
       have HB2 : Hid (Below (w.heap.size + 2) w1 w2) := Lib.hid (by simpa using hb2)
       have HR2 : Hid (w2.heap[w.heap.size + 1]? = some (.cells #[.int .i64 0, .bool false, .slice none 0 0] 47 (0, 0))) := Lib.hid ((HB2.out.block _ (by omega)).trans HR1.out)
       have r0 := cell_of_heap HR2.out 0
       have r1 := cell_of_heap HR2.out 1
       have r2 := cell_of_heap HR2.out 2
       have f0 := free_of_heap HR2.out 0
       have f1 := free_of_heap HR2.out 1
       have f2 := free_of_heap HR2.out 2
       clear ha2 hb2))
  obtain ⟨W, hW⟩ : ∃ W, W = ((w2.setCell ⟨w.heap.size + 1, 0, none⟩ (.int .i64 0)).setCell ⟨w.heap.size + 1, 1, none⟩ (.bool false)).setCell ⟨w.heap.size + 1, 2, none⟩ (.slice A' ks.length c') := ⟨_, rfl⟩
  rw [← hW]
  have hh : W.heap[w.heap.size + 1]? = some (.cells #[.int .i64 0, .bool false, .slice A' ks.length c'] 47 (0, 0)) := by rw [hW, heap_setCell_at, heap_setCell_at, heap_setCell_at, HR2.out]; rfl
  have d0 : W.cell? ⟨w.heap.size + 1, 0, none⟩ = some (.int .i64 0) := cell_of_heap hh 0
  have d1 : W.cell? ⟨w.heap.size + 1, 1, none⟩ = some (.bool false) := cell_of_heap hh 1
  have d2 : W.cell? ⟨w.heap.size + 1, 2, none⟩ = some (.slice A' ks.length c') := cell_of_heap hh 2
  have hc : Chg (fun k => k = w.heap.size + 1) w2 W := hW ▸ (((Chg.refl (fun k => k = w.heap.size + 1) w2).setCell (p := ⟨w.heap.size + 1, _, none⟩) (.inl rfl) _).setCell (p := ⟨w.heap.size + 1, _, none⟩) (.inl rfl) _).setCell (p := ⟨w.heap.size + 1, _, none⟩) (.inl rfl) _
  refine leaves_cons (f := 36) (args := #[.pointer (some ⟨w.heap.size + 1, 0, none⟩)]) (by simp) (by simp [go_sem]) ?_
  refine (fault_idle _ _).mono ?_
  rintro e u' w'' ⟨rfl, rfl, rfl⟩
  simp [Leaves, settle, results, Tryz.results26, go_sem, d0, d1, d2]
  exact ⟨⟨.slice A' ks.length c', rs⟩, rfl, seek_fin HB1.out hs1 HA2.out (HB2.out.mono (by omega)) hc⟩

end Go.Proofs.YtffgkocokkhahaaGreatDoor

/- impl.Index: what holds between its deeds. -/
namespace Go.Proofs.YtffgkocokkhahaaGreatDoor
open Go.RowKit

structure IxLoop (ks : List Key) (tl : List Bool) (x kk : Nat) (w wr : World) (r : Value) (av bs : List AnsV) (M D : Nat → Prop) : Prop where
  own : wr.ownsRow w.heap.size 47 3 r av.length (flat AnsV.cells av)
  ix : Ix x (min kk ks.length) (sortK (ks.take kk)) M D wr
  eof : D 4
  ans : Answers w.heap.size wr ks tl bs
  in_ : ∀ a ∈ bs, AnsIn D a
  apart : ∀ b, r.ownBlock = some b → ¬ M b ∧ ¬ D b
  new : ∀ b, M b → w.heap.size ≤ b
  below : Below w.heap.size w wr

theorem Answers.keep {B : Nat} {S D : Nat → Prop} {w w' : World} {ks : List Key} {tl : List Bool} {bs : List AnsV} (h : Answers B w ks tl bs) (hi : ∀ a ∈ bs, AnsIn D a) (hc : Chg S w w') (hn : ∀ k, D k → ¬ S k) : Answers B w' ks tl bs :=
  ⟨h.nil, fun j b a hj ha => (h.rows j b a hj ha).keep (hi a (List.mem_of_getElem? ha)) hc hn⟩

variable {ks : List Key} {tl : List Bool} {x kk : Nat} {w wr w1 w2 w3 : World} {r : Value} {av bs : List AnsV} {M D : Nat → Prop}

theorem IxLoop.under (h : IxLoop ks tl x kk w wr r av bs M D) (hb : Below wr.heap.size wr w1) : IxLoop ks tl x kk w w1 r av bs M D :=
  ⟨own_below h.own hb, h.ix.below hb, h.eof, h.ans.keep h.in_ (Chg.of_below (S := fun _ => False) hb) (fun _ _ h => h), h.in_, h.apart, h.new, up_below' h.below hb⟩

theorem IxLoop.create (h : IxLoop ks tl x kk w wr r av av M D) (hkk : av.length = kk) {key : Key} (hkey : ks[kk]? = some key) {y : Ending} (hd : DeedCreateP x (min kk ks.length + 1) (insK key (sortK (ks.take kk))) M D wr y w2) :
    y = .returned (.agg #[.int .i64 0, .bool false, .slice none 0 0]) ∧ ∃ M' D', IxLoop ks tl x (kk + 1) w w2 r av (av ++ [⟨.slice none 0 0, []⟩]) M' D' := by
  obtain ⟨rfl, M', D', hx, hc, hD, hM', hD'⟩ := hd
  have hlt := (List.getElem?_eq_some_iff.1 hkey).1
  have hs := h.below.size
  refine ⟨rfl, M', D', own_chg h.own hc (fun b hb => (h.apart b hb).1), ?_, hD _ h.eof, ⟨fun j a hj ha => ?_, fun j b a hj ha => ?_⟩, fun a ha => ?_, fun b hb => ?_, fun b hb => ?_, h.below.trans (hc.below hs h.new)⟩
  · rw [take_snoc hkey, sortK_snoc]
    rw [show min (kk + 1) ks.length = min kk ks.length + 1 by omega]
    exact hx
  · rcases Nat.lt_or_ge j av.length with h1 | h1
    · rw [List.getElem?_append_left h1] at ha
      exact h.ans.nil j a hj ha
    · rw [List.getElem?_append_right h1] at ha
      cases hj0 : j - av.length with
      | zero =>
        rw [hj0] at ha
        obtain rfl := Option.some.inj ha
        rfl
      | succ i =>
        rw [hj0] at ha
        cases ha
  · have := (List.getElem?_eq_some_iff.1 ha).1
    simp at this
    omega
  · rcases List.mem_append.1 ha with h1 | h1
    · exact (h.in_ a h1).mono hD
    · obtain rfl := List.mem_singleton.1 h1
      exact ⟨fun b hb => (by cases hb), fun r hr => (by cases hr)⟩
  · have hlt := own_lt h.own hb
    exact ⟨fun hm => (hM' b hm).elim (h.apart b hb).1 (by omega), fun hd => (hD' b hd).elim (h.apart b hb).2 (by omega)⟩
  · exact (hM' b hb).elim (h.new b) (fun h1 => by omega)

theorem IxLoop.seek (h : IxLoop ks tl x kk w wr r av av M D) (hkk : av.length = kk) (hm : ks.length ≤ kk) {b : Bool} (hb : tl[kk - ks.length]? = some b) {a : AnsV} (ha : AnsRows wr.heap.size w2 (want ks b) a.R a.rs) (hb2 : Below wr.heap.size wr w2) :
    ∃ M' D', IxLoop ks tl x (kk + 1) w w2 r av (av ++ [a]) M' D' := by
  have hs := h.below.size
  have hs2 := hb2.size
  have hu := h.under hb2
  refine ⟨M, fun k => D k ∨ (wr.heap.size ≤ k ∧ k < w2.heap.size), hu.own, ?_, .inl h.eof, ⟨fun j a' hj ha' => ?_, fun j b' a' hj ha' => ?_⟩, fun a' ha' => ?_, fun k hk => ?_, h.new, hu.below⟩
  · have h1 := hu.ix
    rw [List.take_of_length_le (by omega), show min kk ks.length = ks.length by omega] at h1
    rw [List.take_of_length_le (by omega), show min (kk + 1) ks.length = ks.length by omega]
    exact h1.more (fun k hk => .inl hk) (fun k hk => hk.elim (h1.data k) (fun hk => ⟨hk.2, fun hM => by have := h.ix.lt hM; omega⟩))
  · rw [List.getElem?_append_left (by omega)] at ha'
    exact h.ans.nil j a' hj ha'
  · rcases Nat.lt_or_ge (ks.length + j) av.length with h1 | h1
    · rw [List.getElem?_append_left h1] at ha'
      exact hu.ans.rows j b' a' hj ha'
    · rw [List.getElem?_append_right h1] at ha'
      cases hj0 : ks.length + j - av.length with
      | zero =>
        rw [hj0] at ha'
        obtain rfl := Option.some.inj ha'
        have : j = kk - ks.length := by omega
        subst this
        obtain rfl := Option.some.inj (hb.symm.trans hj)
        exact ha.mono hs
      | succ i =>
        rw [hj0] at ha'
        cases ha'
  · rcases List.mem_append.1 ha' with h1 | h1
    · exact (h.in_ a' h1).mono (fun k hk => .inl hk)
    · obtain rfl := List.mem_singleton.1 h1
      exact ha.in_.mono (fun k hk => .inr hk)
  · have hlt := own_lt h.own hk
    exact ⟨(h.apart k hk).1, fun hd => hd.elim (h.apart k hk).2 (by omega)⟩

theorem IxLoop.append {a : AnsV} (h : IxLoop ks tl x kk w w2 r av (av ++ [a]) M D) {o : Obj} {v : Value} {n : Nat} (hn : n = av.length + 1) (hown : w3.ownsRow w.heap.size 47 3 v n (flat AnsV.cells av ++ a.cells)) (hg : (w2.alloc o).grownBy w3 r.ownBlock)
    (hat : v.ownBlock = r.ownBlock ∨ v.ownBlock = some (w2.alloc o).heap.size) : IxLoop ks tl x kk w w3 v (av ++ [a]) (av ++ [a]) M D := by
  subst hn
  have hc : Chg (fun k => r.ownBlock = some k) w2 w3 := ((Chg.refl _ w2).alloc o).next (Chg.of_grown hg) (fun z _ h => h.symm)
  have hz : (w2.alloc o).heap.size = w2.heap.size + 1 := by simp
  refine ⟨?_, h.ix.chg hc (fun k hk e => (h.apart k e).1 hk) (fun k hk e => (h.apart k e).2 hk), h.eof, h.ans.keep h.in_ hc (fun k hk e => (h.apart k e).2 hk), h.in_, fun b hb => ?_, h.new, h.below.trans (hc.below h.below.size (fun k hk => own_ge h.own hk))⟩
  · rw [flat_append, List.length_append]
    simpa [flat] using hown
  · rcases hat with h1 | h1
    · exact h.apart b (h1 ▸ hb)
    · rw [hb] at h1
      have h2 := Option.some.inj h1
      exact ⟨fun hm => by have := h.ix.lt hm; omega, fun hd => by have := (h.ix.data b hd).1; omega⟩

def DeedQ (ks : List Key) (tl : List Bool) (x kk : Nat) (w : World) (r : Value) (av : List AnsV) (y : Ending) (w2 : World) : Prop :=
  ∃ (a : AnsV) (M' D' : Nat → Prop), y = .returned (.agg #[.int .i64 0, .bool false, a.R]) ∧ (∃ A n c, a.R = .slice A n c) ∧ IxLoop ks tl x (kk + 1) w w2 r av (av ++ [a]) M' D'

theorem want_all (ks : List Key) (b : Bool) : want ks b = if b then sortK ks else (sortK ks).reverse := rfl

theorem deed_step {rows : List RowV} {nn : Nat} (hks : ks = rows.map RowV.key) (hg : RowsGood rows nn) (hn1 : 1 ≤ nn) (hn2 : nn ≤ 1000) (hl : rows.length ≤ 1000) {N : Int} (hN : (rows.length : Int) ≤ N) (hN1 : N ≤ 1000000) {E : Value} (hE : HasEof wr E)
    (h : IxLoop ks tl x kk w wr r av av M D) (hkk : av.length = kk) {d : DeedV} (hd : (rows.map RowV.deed ++ tl.map (endDeed N))[kk]? = some d) (hA : LAt wr d.A d.us) (w' : World) (hb : Below wr.heap.size wr w') :
    Calls Tryz.prog 26 #[.pointer (some ⟨x, 0, none⟩), .agg #[.string d.op, .slice d.A d.us.length d.c, .int .i64 d.h, .int .i64 d.N]] w' (DeedQ ks tl x kk w r av) := by
  have hu := h.under hb
  have hlk : ks.length = rows.length := by rw [hks]; simp
  rcases Nat.lt_or_ge kk rows.length with hlt | hge
  · rw [List.getElem?_append_left (by simpa using hlt), List.getElem?_map] at hd
    obtain ⟨r0, hr0, rfl⟩ := Option.map_eq_some_iff.1 hd
    have hmem := List.mem_of_getElem? hr0
    have hkey : ks[kk]? = some r0.key := by rw [hks, List.getElem?_map, hr0]; rfl
    have hKO : KeysOk ks nn := by rw [hks]; exact hg.keys
    obtain ⟨g, hp⟩ := hKO.place hkey
    have hmin : min kk ks.length = kk := by omega
    have hx := hu.ix
    rw [hmin] at hx
    have hd := deed_create (nn := nn) (c := r0.c) (N := 0) hx (hA.below hb) (hg.conc r0 hmem) (hd := r0.h) (by have := hg.lo r0 hmem; omega) (hg.hi r0 hmem) (by omega) (by rw [length_sortK]; simp; omega) (hg.len hmem) (fun k hk => (hKO.off hkey k hk).1) (by omega) (by omega) hp
    refine hd.mono ?_
    intro y w2 hP
    have hP' : DeedCreateP x (min kk ks.length + 1) (insK r0.key (sortK (ks.take kk))) M D w' y w2 := by rw [hmin]; exact hP
    obtain ⟨rfl, M', D', hL⟩ := hu.create hkk hkey hP'
    exact ⟨_, M', D', rfl, ⟨_, _, _, rfl⟩, hL⟩
  · rw [List.getElem?_append_right (by simpa using hge), List.getElem?_map] at hd
    obtain ⟨b, hb0, rfl⟩ := Option.map_eq_some_iff.1 hd
    have hb1 : tl[kk - ks.length]? = some b := by rw [hlk]; simpa using hb0
    have hEx := hE.below hb
    have hx := hu.ix
    rw [List.take_of_length_le (by omega)] at hx
    have hNs : ((sortK ks).length : Int) ≤ N := by rw [length_sortK, hlk]; exact hN
    have fin : ∀ y w2, DeedSeekP (want ks b) w' y w2 → DeedQ ks tl x kk w r av y w2 := by
      rintro y w2 ⟨a, rfl, ha, hb2⟩
      obtain ⟨M', D', hL⟩ := hu.seek hkk (by omega) hb1 ha hb2
      obtain ⟨A', c', e⟩ := own_form ha.own
      exact ⟨a, M', D', rfl, ⟨_, _, _, e⟩, hL⟩
    cases b with
    | true => exact (deed_first (ks := sortK ks) (Lib.hid fun w'' hb'' => ix_seek_first (hx.below hb'') (hEx.below hb'') hNs hN1)).mono fin
    | false => exact (deed_last (ks := (sortK ks).reverse) (Lib.hid fun w'' hb'' => ix_seek_last (hx.below hb'') (hEx.below hb'') hNs hN1)).mono fin

end Go.Proofs.YtffgkocokkhahaaGreatDoor

/- impl.Index of an index that is not unique: rows that are created, then what is found from its ends. -/
namespace Go.Proofs.YtffgkocokkhahaaGreatDoor
open Go.RowKit

theorem info_ians : (Tryz.prog.info? 47).map (fun i => (i.zero, i.size, i.bytes)) = some (some (.agg #[.int .i64 0, .bool false, .slice none 0 0]), 3, 40) := by kernel_rfl

theorem reads_ans (w : World) (R : Value) (t : TypeId) : Reads (w.alloc (.cells #[.int .i64 0, .bool false, R] t)) (w.heap.size + 1) 3 (some ⟨w.heap.size, 0, none⟩) 1 [.int .i64 0, .bool false, R] :=
  ⟨rfl, fun _ => ⟨_, rfl, Nat.lt_succ_self _, fun j u hu => World.news_of_block (heap_new w _) j u hu⟩⟩

theorem heap_apart {w : World} {a b : Nat} {c d : Array Value} {t u : TypeId} {f g : Nat × Nat} (h1 : w.heap[a]? = some (.cells c t f)) (h2 : w.heap[b]? = some (.cells d u g)) (hne : t ≠ u) : a ≠ b := by
  rintro rfl
  rw [h1] at h2
  injection h2 with h2
  injection h2 with _ ht
  exact hne ht

theorem ix_start {ks : List Key} {tl : List Bool} {w w1 : World} {x m t r : Nat} {E : Value} (hE : HasEof w E) (hx : IdxW w1 x m t false) (ht : TreeAt w1 t [] (fun b => b = t)) (hs : StoreAt w1 m 0 r (.slice none 0 0)) (lx : w.heap.size ≤ x) (lm : w.heap.size ≤ m) (lt : w.heap.size ≤ t) (lr : w.heap.size ≤ r) (hb : Below w.heap.size w w1) :
    ∃ M D, IxLoop ks tl x 0 w w1 (.slice none 0 0) [] [] M D := by
  obtain ⟨ver, hT, _⟩ := tree_empty ht
  obtain ⟨cs, hm, _⟩ := hs.mem
  obtain ⟨p, s, hr⟩ := hs.roll
  have hX : w1.heap[x]? = _ := hx
  have hT' : w1.heap[t]? = _ := hT
  have tx : t ≠ x := heap_apart hT' hX (by decide)
  have tm : t ≠ m := heap_apart hT' hm (by decide)
  have tr : t ≠ r := heap_apart hT' hr (by decide)
  have rx : r ≠ x := heap_apart hr hX (by decide)
  have rm : r ≠ m := heap_apart hr hm (by decide)
  have hE1 := hE.lt
  have hsz := hb.size
  have h0 : (Value.slice none 0 0).ownBlock = none := rfl
  refine ⟨Mut (fun b => b = t) r (.slice none 0 0), fun k => k = x ∨ k = m ∨ k = 4, World.ownsRow_nil _ _ _ _, ⟨⟨m, t, r, _, _, [], ⟨hx, ht, hs, ?_⟩, fun _ => Iff.rfl, by simp [sortK], fun e he => (by cases he), .inr (.inl rfl)⟩, .inl rfl, fun k hk => ⟨?_, ?_⟩⟩, .inr (.inr rfl), ⟨fun j a _ h => (by simp at h), fun j b a _ h => (by simp at h)⟩, fun a ha => (by cases ha), fun b hb => (by rw [h0] at hb; cases hb), ?_, hb⟩
  · rintro k rfl
    exact ⟨tx, tm, tr, by rw [h0]; exact fun h => by cases h⟩
  · rcases hk with rfl | rfl | rfl
    · exact lt_of_heap hX
    · exact lt_of_heap hm
    · omega
  · rintro (h | h | h)
    · rcases hk with e | e | e <;> omega
    · rcases hk with e | e | e <;> omega
    · rw [h0] at h; cases h
  · rintro b (h | h | h)
    · omega
    · omega
    · rw [h0] at h; cases h

def IndexP (ks : List Key) (tl : List Bool) (w : World) (y : Ending) (w' : World) : Prop :=
  ∃ A c av, y = .returned (.slice A (ks.length + tl.length) c) ∧ w'.ownsRow w.heap.size 47 3 (.slice A (ks.length + tl.length) c) (ks.length + tl.length) (flat AnsV.cells av) ∧ av.length = ks.length + tl.length ∧ Answers w.heap.size w' ks tl av ∧ Below w.heap.size w w'

set_option maxRecDepth 100000 in
set_option maxHeartbeats 3200000 in
theorem index_any {rows : List RowV} {ks : List Key} {nn : Nat} {tl : List Bool} {A : Option Addr} {c : Nat} {w : World} (hks : ks = rows.map RowV.key) (hg : RowsGood rows nn) (hn1 : 1 ≤ nn) (hn2 : nn ≤ 1000) (hl : rows.length ≤ 1000) (htl : tl.length ≤ 10) {N : Int} (hN : (rows.length : Int) ≤ N) (hN1 : N ≤ 1000000) {E : Value} (hE : HasEof w E)
    (hd : DeedsAt w A (rows.map RowV.deed ++ tl.map (endDeed N))) :
    Calls Tryz.prog 13 #[.bool false, .slice A (ks.length + tl.length) c] w (IndexP ks tl w) := by
  obtain ⟨i0, hi, hz0, hz1, hz2⟩ := info_parts info_ians
  unfold IndexP
  obtain ⟨len, hlen⟩ : ∃ len, len = ks.length + tl.length := ⟨_, rfl⟩
  have hlen2 : len = (rows.map RowV.deed ++ tl.map (endDeed N)).length := by rw [hlen, hks]; simp
  have hlen3 : len ≤ 1010 := by rw [hlen2]; simp; omega
  have HS := Lib.hid (fun (x k : Nat) (wr : World) (r : Value) (av : List AnsV) (M D : Nat → Prop) (h : IxLoop ks tl x k w wr r av av M D) (hk : av.length = k) (d : DeedV) (hdk : (rows.map RowV.deed ++ tl.map (endDeed N))[k]? = some d) (w' : World) (hb : Below wr.heap.size wr w') =>
    deed_step hks hg hn1 hn2 hl hN hN1 (hE.below h.below) h hk hdk ((hd.below h.below) k d hdk).2 w' hb)
  have HD := Lib.hid hd
  have HE := Lib.hid hE
  have HN := Lib.hid hlen2
  rw [← hlen]
  clear hd hE hlen2 hks hg hn1 hn2 hl hN hN1 hlen
  go_enter Tryz.func13, Tryz.ntmps13
  go_wp2_with (go_at_call 25
               refine (newIndex_any false _).mono ?_
               rintro y w1 ⟨x, m, t, r, rfl, hx, ht, hs, lx, lm, lt, lr, hb⟩
               have HL0 := Lib.hid (ix_start (ks := ks) (tl := tl) HE.out hx ht hs lx lm lt lr hb)
               clear hx ht hs hb)
  go_loopw [7, 19] (fun rv i wr => ∃ (k : Nat) (av : List AnsV) (M D : Nat → Prop), k ≤ len ∧ i = .int .i64 k ∧ av.length = k ∧ IxLoop ks tl x k w wr rv av av M D) (fun _ i _ => len - (intOf i).toNat)
  case atStart =>
    obtain ⟨M, D, h⟩ := HL0.out
    exact ⟨0, [], M, D, by omega, rfl, rfl, h⟩
  case round =>
    obtain ⟨k, av, M, D, hk, rfl, hka, hL⟩ := hrel
    by_cases hlt : k < len
    · obtain ⟨d, hdk⟩ : ∃ d, (rows.map RowV.deed ++ tl.map (endDeed N))[k]? = some d := ⟨_, List.getElem?_eq_getElem (by rw [← HN.out]; exact hlt)⟩
      obtain ⟨⟨ad, rfl, hbl, h0, h1, h2, h3⟩, _⟩ := (HD.out.below hL.below) k d hdk
      have HC := Lib.hid (HS.out x k _ _ av M D hL hka d hdk)
      have HKA := Lib.hid hka
      clear hL hdk hka
      go_wp2_with (first
        | (go_at_call 26
           refine (HC.out _ (by repeat (first | exact Below.refl _ _ | refine Below.setCell ?_ (Nat.le_refl _) _ | refine Below.alloc ?_ (Nat.le_refl _) _))).mono ?_
           rintro y w2 ⟨⟨R, rs⟩, M', D', rfl, ⟨A2, n2, c2, hR⟩, hL⟩
           simp only at hR
           subst hR
           have HL := Lib.hid hL
           have HO := Lib.hid hL.own
           have hs2 := hL.below.size
           rw [HKA.out] at HO
           clear hL)
        | (at_builtin
           refine wpList_append_any _ rfl (.tmp 23) (.tmp 27) _ rfl w.heap.size 47 i0 _ 3 40 Tryz.underlying44 hi hz0 hz1 hz2 rfl (by omega) _ k (flat AnsV.cells av) rfl
             (HO.out.alloc _) (w2.heap.size + 1) (some ⟨w2.heap.size, 0, none⟩) 1 1 [.int .i64 0, .bool false, .slice A2 n2 c2] rfl (reads_ans _ _ _) (fun u hu => by simp at hu; rcases hu with rfl | rfl | rfl <;> rfl) (by simp only [maxLen]; omega) (by omega) (by simp; omega) ?_
           intro v3 w3 hown3 hg3 hat3
           have HO3 := Lib.hid hown3; have HG3 := Lib.hid hg3; have HA3 := Lib.hid hat3; clear hown3 hg3 hat3))
      exact ⟨⟨k + 1, av ++ [⟨.slice A2 n2 c2, rs⟩], M', D', by omega, by push_cast; rfl, by simp [HKA.out], HL.out.append (by rw [HKA.out]) HO3.out HG3.out HA3.out⟩, by simp [intOf]; omega⟩
    · have hke : k = len := by omega
      subst hke
      have hO := hL.own
      rw [hka] at hO
      obtain ⟨A', c', rfl⟩ := own_form hO
      have HO := Lib.hid hO
      have HL := Lib.hid hL
      clear hO hL
      go_wp2
      go_ret
      exact ⟨A', c', av, rfl, HO.out, hka, HL.out.ans, HL.out.below⟩

end Go.Proofs.YtffgkocokkhahaaGreatDoor

/- laws.zzFits16 (as Sl7, without impl.KeyCompare); a list of one value in new memory. -/
namespace Go.Proofs.YtffgkocokkhahaaGreatDoor
open Go.RowKit

theorem lat_new (w : World) (x : VV) (t : TypeId) : LAt (w.alloc (.cells #[.string x.k, .int .i64 x.n, .int .u64 x.u, .float .f64 x.f, .string x.s] t)) (some ⟨w.heap.size, 0, none⟩) [x] := by
  intro i y hy
  cases i with
  | zero =>
    obtain rfl : x = y := by simpa using hy
    exact ⟨_, rfl, by show w.heap.size < _; simp, World.cell?_alloc_mark w _ t (0, 0) 0, World.cell?_alloc_mark w _ t (0, 0) 1, World.cell?_alloc_mark w _ t (0, 0) 2, World.cell?_alloc_mark w _ t (0, 0) 3, World.cell?_alloc_mark w _ t (0, 0) 4⟩
  | succ i => simp at hy

def numV (n : Int) : VV := ⟨int64S, n, 0, 0, empS⟩
theorem numV_conc : ConcL [numV 1] ∧ ConcL [numV 2] ∧ collV [numV 1] [numV 2] = -1 := by
  refine ⟨fun j x hx => ?_, fun j x hx => ?_, by decide +kernel⟩
  all_goals
    cases j with
    | zero =>
      obtain rfl := (Option.some.inj hx)
      exact ⟨by decide +kernel, by simp [numV, Rng]⟩
    | succ j => simp at hx

set_option maxHeartbeats 400000 in
theorem zzFits16_any (l : List VV) (A : Option Addr) (c : Nat) (h : Int) (w : World) (hl : LAt w A l) :
    Calls Tryz.prog 23 #[.agg #[.slice A l.length c, .int .i64 h]] w fun e w' => e = .returned (.bool (fits2B l)) ∧ Below w.heap.size w w' := by
  cases hf : fits2B l with
  | false =>
    have HZ := Lib.hid (fun w' (hb : Below w.heap.size w w') => show Calls Tryz.prog 28 #[.slice A l.length c] w' fun e w'' => e = .returned (.bool false) ∧ Below w'.heap.size w' w'' by rw [← hf]; exact zzFits2_any l A c w' (hl.below hb))
    clear hl hf
    go_enter Tryz.func23, Tryz.ntmps23
    go_wp2_with (go_at_call 28; refine (HZ.out _ ((Below.refl _ _).alloc (Nat.le_refl _) _)).mono ?_; rintro e w1 ⟨rfl, hb1⟩)
    go_ret
    exact ⟨rfl, up_below' ((Below.refl _ _).alloc (Nat.le_refl _) _) hb1⟩
  | true =>
    have HZ := Lib.hid (fun w' (hb : Below w.heap.size w w') => show Calls Tryz.prog 28 #[.slice A l.length c] w' fun e w'' => e = .returned (.bool true) ∧ Below w'.heap.size w' w'' by rw [← hf]; exact zzFits2_any l A c w' (hl.below hb))
    clear hl hf
    go_enter Tryz.func23, Tryz.ntmps23
    go_wp2_with (go_at_call 28; refine (HZ.out _ ((Below.refl _ _).alloc (Nat.le_refl _) _)).mono ?_; rintro e w1 ⟨rfl, hb1⟩)
    go_ret
    exact ⟨rfl, up_below' ((Below.refl _ _).alloc (Nat.le_refl _) _) hb1⟩

end Go.Proofs.YtffgkocokkhahaaGreatDoor

/- laws.zzFits17, laws.isKey, laws.filled. -/
namespace Go.Proofs.YtffgkocokkhahaaGreatDoor
open Go.RowKit

def fits17B (rows : List RowV) : Bool := decide (rows.length ≤ 2147483647) && rows.all fun r => fits2B r.us

set_option maxHeartbeats 1000000 in
theorem zzFits17_any (rows : List RowV) (A : Option Addr) (c : Nat) (w : World) (hl : RowsAt w A rows) :
    Calls Tryz.prog 10 #[.slice A rows.length c] w fun e w' => e = .returned (.bool (fits17B rows)) ∧ Below w.heap.size w w' := by
  obtain ⟨len, hlen⟩ : ∃ len, len = rows.length := ⟨_, rfl⟩
  have HL := Lib.hid hl
  have HN := Lib.hid hlen
  rw [← hlen]
  have HB : Hid (2147483647 < len → fits17B rows = false) := fun h => by unfold fits17B; rw [← hlen]; simp; omega
  have HE : Hid (∀ (k : Nat) (x : RowV), rows[k]? = some x → fits2B x.us = false → fits17B rows = false) := fun k x hx hf => by
    unfold fits17B
    rw [Bool.and_eq_false_iff]
    right
    rw [List.all_eq_false]
    exact ⟨x, List.mem_of_getElem? hx, by rw [hf]; decide⟩
  have HY : Hid (len ≤ 2147483647 → (∀ j x, j < len → rows[j]? = some x → fits2B x.us = true) → fits17B rows = true) := fun h1 h2 => by
    unfold fits17B
    rw [Bool.and_eq_true, decide_eq_true_eq, List.all_eq_true]
    refine ⟨by omega, fun x hx => ?_⟩
    obtain ⟨j, hj, rfl⟩ := List.getElem_of_mem hx
    exact h2 j _ (by omega) (List.getElem?_eq_getElem hj)
  clear hl hlen
  go_enter Tryz.func10, Tryz.ntmps10
  have HF := Lib.hid (fun (r : RowV) (b : Bool) (h : fits2B r.us = b) (w : World) (hl : LAt w r.A r.us) => show Calls Tryz.prog 23 #[.agg #[.slice r.A r.us.length r.c, .int .i64 r.h]] w fun e w' => e = .returned (.bool b) ∧ Below w.heap.size w w' by rw [← h]; exact zzFits16_any r.us r.A r.c r.h w hl)
  go_wp2
  · go_ret
    exact ⟨by rw [HB.out (by omega)]; rfl, Below.refl _ _⟩
  go_loopw [10] (fun i wr => ∃ k : Nat, k ≤ len ∧ i = .int .i64 k ∧ Below w.heap.size w wr ∧ ∀ j x, j < k → rows[j]? = some x → fits2B x.us = true) (fun i _ => len - (intOf i).toNat)
  case atStart => exact ⟨0, by omega, rfl, Below.refl _ _, fun _ _ h => by omega⟩
  case round =>
    obtain ⟨k, hk, rfl, hb, hall⟩ := hrel
    have HA := Lib.hid hall
    clear hall
    by_cases hlt : k < len
    · obtain ⟨x, hx'⟩ : ∃ x, rows[k]? = some x := ⟨_, List.getElem?_eq_getElem (by rw [← HN.out]; exact hlt)⟩
      have HX := Lib.hid hx'
      obtain ⟨⟨ad, rfl, hbl, h0, h1⟩, hl⟩ := (HL.out.below hb) k x hx'
      have HLA := Lib.hid hl
      clear hx' hl
      have hs := hb.size
      cases hf : fits2B x.us with
      | false =>
        have HW := Lib.hid (HF.out x false hf)
        have hf' := Lib.hid hf
        clear hf
        go_wp2_with (go_at_call 23; refine (HW.out _ (HLA.out.below ((Below.refl _ _).alloc (Nat.le_refl _) _))).mono ?_; rintro e w1 ⟨rfl, hb1⟩)
        go_ret
        exact ⟨by rw [HE.out k x HX.out hf'.out]; rfl, up_below' (hb.alloc hb.size _) hb1⟩
      | true =>
        have HW := Lib.hid (HF.out x true hf)
        have hf' := Lib.hid hf
        clear hf
        go_wp2_with (go_at_call 23; refine (HW.out _ (HLA.out.below ((Below.refl _ _).alloc (Nat.le_refl _) _))).mono ?_; rintro e w1 ⟨rfl, hb1⟩)
        refine ⟨⟨k + 1, by omega, by push_cast; rfl, up_below' (hb.alloc hb.size _) hb1, fun j y hj hy => ?_⟩, by simp [intOf]; omega⟩
        rcases Nat.lt_or_ge j k with h | h
        · exact HA.out j y h hy
        · obtain rfl : j = k := by omega
          obtain rfl : y = x := Option.some.inj (hy.symm.trans HX.out)
          exact hf'.out
    · have hke : k = len := by omega
      subst hke
      go_wp2
      go_ret
      exact ⟨by rw [HY.out (by omega) HA.out]; rfl, hb⟩

def isKeyB (l : List VV) (n : Int) : Bool := ((l.length : Int) == n) && concL l n

set_option maxHeartbeats 1000000 in
theorem isKey_any (l : List VV) (A : Option Addr) (c : Nat) (n : Int) (w : World) (hl : LAt w A l) (hm : l.length ≤ 9223372036854775807) :
    Calls Tryz.prog 24 #[.slice A l.length c, .int .i64 n] w fun e w' => e = .returned (.bool (isKeyB l n)) ∧ Below w.heap.size w w' := by
  have HA := Lib.hid (allConcrete_any l A c n w hl hm)
  clear hl
  cases h : ((l.length : Int) == n) with
  | false =>
    have e : isKeyB l n = false := by unfold isKeyB; rw [h]; rfl
    rw [e]
    clear e
    go_enter Tryz.func24, Tryz.ntmps24
    go_wp2
    go_ret
    exact ⟨rfl, Below.refl _ _⟩
  | true =>
    have e : isKeyB l n = concL l n := by unfold isKeyB; rw [h]; rfl
    rw [e]
    clear e
    go_enter Tryz.func24, Tryz.ntmps24
    go_wp2_with (go_at_call 18; refine HA.out.mono ?_; rintro e w1 ⟨rfl, hb1⟩)
    go_ret
    exact ⟨rfl, hb1⟩

theorem isKey_conc {r : RowV} {n : Int} (h : isKeyB r.us n = true) (hr : RowRng r) : (r.us.length : Int) = n ∧ ConcL r.us := by
  unfold isKeyB at h
  rw [Bool.and_eq_true] at h
  obtain ⟨h1, h2⟩ := h
  unfold concL at h2
  rw [Bool.and_eq_true, List.all_eq_true] at h2
  exact ⟨by simpa using h1, fun j x hx => ⟨h2.2 x (List.mem_of_getElem? hx), hr.vals j x hx⟩⟩

theorem info_ideed : (Tryz.prog.info? 43).map (fun i => (i.zero, i.size, i.bytes)) = some (some (.agg #[.string ⟨#[]⟩, .slice none 0 0, .int .i64 0, .int .i64 0]), 4, 56) := by kernel_rfl

def FilledP (rows : List RowV) (n : Int) (w : World) (y : Ending) (w' : World) : Prop :=
  (y = .returned (.tuple #[.slice none 0 0, .bool false]) ∧ Below w.heap.size w w') ∨
  ∃ A c nn, y = .returned (.tuple #[.slice A rows.length c, .bool true]) ∧ w'.ownsRow w.heap.size 43 4 (.slice A rows.length c) rows.length (flat DeedV.cells (rows.map RowV.deed)) ∧ Below w.heap.size w w' ∧ rows.length ≤ 600 ∧ n = (nn : Nat) ∧ 1 ≤ nn ∧ nn ≤ 3 ∧ RowsGood rows nn

theorem good_of {rows : List RowV} {n : Int} {nn : Nat} (hn : n = nn) (hr : ∀ r ∈ rows, RowRng r) (h1 : ∀ (j : Nat) (r : RowV), j < rows.length → rows[j]? = some r → isKeyB r.us n = true ∧ 1 ≤ r.h) (h2 : ∀ (i j : Nat) (a b : RowV), i < j → j < rows.length → rows[i]? = some a → rows[j]? = some b → (a.h == b.h) = false) : RowsGood rows nn := by
  have hm : ∀ r ∈ rows, isKeyB r.us n = true ∧ 1 ≤ r.h := fun r hr => by
    obtain ⟨j, hj, rfl⟩ := List.getElem_of_mem hr
    exact h1 j _ hj (List.getElem?_eq_getElem hj)
  refine ⟨⟨fun x hx => ?_, fun i j a b hij ha hb => ?_⟩, fun r hr' => (isKey_conc (hm r hr').1 (hr r hr')).2, fun r hr' => (hm r hr').2, fun r hr' => (hr r hr').hi⟩
  · obtain ⟨r, hr', rfl⟩ := List.mem_map.1 hx
    have := (isKey_conc (hm r hr').1 (hr r hr')).1
    show r.us.length = nn
    omega
  · rw [List.getElem?_map] at ha hb
    obtain ⟨p, hp, rfl⟩ := Option.map_eq_some_iff.1 ha
    obtain ⟨q, hq, rfl⟩ := Option.map_eq_some_iff.1 hb
    have := h2 i j p q hij (List.getElem?_eq_some_iff.1 hq).1 hp hq
    show p.h ≠ q.h
    simpa using this

end Go.Proofs.YtffgkocokkhahaaGreatDoor

/- laws.ahead; laws.back. -/
namespace Go.Proofs.YtffgkocokkhahaaGreatDoor
open Go.RowKit

set_option maxRecDepth 100000 in
set_option maxHeartbeats 1600000 in
theorem ahead_any (r x : RowV) (hlen : r.us.length = x.us.length) (hm : r.us.length ≤ 1000) (hr : ConcL r.us) (hx : ConcL x.us) (w : World) (hA : LAt w r.A r.us) (hB : LAt w x.A x.us) :
    Calls Tryz.prog 27 #[.agg #[.slice r.A r.us.length r.c, .int .i64 r.h], .agg #[.slice x.A x.us.length x.c, .int .i64 x.h]] w fun e w' => e = .returned (.bool (decide (r.key.c x.key < 0))) ∧ Below w.heap.size w w' := by
  have hk : r.key.c x.key = if collV r.us x.us = 0 then r.h - x.h else collV r.us x.us := by rw [collV_lex r.us x.us hr.plain hx.plain]; rfl
  have HC := Lib.hid (fun w' (hb : Below w.heap.size w w') => implRows_any r.us x.us r.A x.A r.c x.c hlen (by omega) hr hx w' (hA.below hb) (hB.below hb))
  rw [hk]
  generalize collV r.us x.us = cc at HC ⊢
  clear hlen hm hr hx hA hB hk
  rcases Int.lt_trichotomy cc 0 with h | h | h
  · rw [if_neg (by omega), show decide (cc < 0) = true by simpa using h]
    have h1 : decide (cc < 0) = true := by simpa using h
    go_enter Tryz.func27, Tryz.ntmps27
    go_wp2_with (go_at_call 48; refine (HC.out _ (below_al2 w _ _)).mono ?_; rintro e w1 ⟨rfl, hb1⟩; obtain ⟨hc1, hf1⟩ := bcell hb1; have hz1 : w.heap.size + 1 < w1.heap.size := (by have := hb1.size; simp at this; omega))
    go_ret
    exact ⟨rfl, up_below' (below_al2 w _ _) hb1⟩
  · subst h
    rw [if_pos rfl, show decide (r.h - x.h < 0) = decide (r.h < x.h) by simp; omega]
    go_enter Tryz.func27, Tryz.ntmps27
    go_wp2_with (go_at_call 48; refine (HC.out _ (below_al2 w _ _)).mono ?_; rintro e w1 ⟨rfl, hb1⟩; obtain ⟨hc1, hf1⟩ := bcell hb1; have hz1 : w.heap.size + 1 < w1.heap.size := (by have := hb1.size; simp at this; omega); have hy1 : w.heap.size < w1.heap.size := (by omega))
    go_ret
    exact ⟨rfl, up_below' (below_al2 w _ _) hb1⟩
  · rw [if_neg (by omega), show decide (cc < 0) = false by simp; omega]
    have h1 : decide (cc < 0) = false := by simp; omega
    have h2 : (cc == 0) = false := by simp; omega
    go_enter Tryz.func27, Tryz.ntmps27
    go_wp2_with (go_at_call 48; refine (HC.out _ (below_al2 w _ _)).mono ?_; rintro e w1 ⟨rfl, hb1⟩; obtain ⟨hc1, hf1⟩ := bcell hb1; have hz1 : w.heap.size + 1 < w1.heap.size := (by have := hb1.size; simp at this; omega))
    go_ret
    exact ⟨rfl, up_below' (below_al2 w _ _) hb1⟩

theorem info_irow2 : (Tryz.prog.info? 65).map (fun i => (i.zero, i.size, i.bytes)) = some (some (.agg #[.slice none 0 0, .int .i64 0]), 2, 32) := by kernel_rfl

theorem reads_row (w : World) (u : Value) (h : Int) (t : TypeId) : Reads (w.alloc (.cells #[u, .int .i64 h] t)) (w.heap.size + 1) 2 (some ⟨w.heap.size, 0, none⟩) 1 [u, .int .i64 h] :=
  ⟨rfl, fun _ => ⟨_, rfl, Nat.lt_succ_self _, fun j u hu => World.news_of_block (heap_new w _) j u hu⟩⟩

/-- Some rows that are told in the other order. -/
def BackP (rows : List RowV) (w : World) (y : Ending) (w' : World) : Prop :=
  ∃ A c, y = .returned (.slice A rows.length c) ∧ w'.ownsRow w.heap.size 65 2 (.slice A rows.length c) rows.length (flat RowV.cells rows.reverse) ∧ Below w.heap.size w w'

theorem rev_step {rows : List RowV} {k j : Nat} {r : RowV} (h : rows[j]? = some r) (hk : k + j + 1 = rows.length) : rows.reverse.take (k + 1) = rows.reverse.take k ++ [r] := by
  have hj := (List.getElem?_eq_some_iff.1 h).1
  refine take_snoc ?_
  rw [List.getElem?_reverse (by omega), ← h]
  congr 1
  omega

set_option maxRecDepth 100000 in
set_option maxHeartbeats 1600000 in
theorem back_any (rows : List RowV) (A : Option Addr) (c : Nat) (w : World) (hl : RowsAt w A rows) (hm : rows.length ≤ 100000) :
    Calls Tryz.prog 16 #[.slice A rows.length c] w (BackP rows w) := by
  obtain ⟨i0, hi, hz0, hz1, hz2⟩ := info_parts info_irow2
  obtain ⟨len, hlen⟩ : ∃ len, len = rows.length := ⟨_, rfl⟩
  have HL := Lib.hid hl
  have HN := Lib.hid hlen
  unfold BackP
  rw [← hlen] at hm ⊢
  clear hl hlen
  have hw0 : IntKind.i64.wrap ((len : Int) - 1) = (len : Int) - 1 := IntWalk.i64_in _ (by omega)
  go_enter Tryz.func16, Tryz.ntmps16
  go_wp2
  go_loopw [3, 4] (fun out i wr => ∃ k : Nat, k ≤ len ∧ i = .int .i64 ((len : Int) - 1 - k) ∧ wr.ownsRow w.heap.size 65 2 out k (flat RowV.cells (rows.reverse.take k)) ∧ Below w.heap.size w wr) (fun _ i _ => (intOf i + 1).toNat)
  case atStart => exact ⟨0, by omega, by simp, World.ownsRow_nil _ _ _ _, Below.refl _ _⟩
  case round =>
    obtain ⟨k, hk, rfl, hown, hb⟩ := hrel
    have HO := Lib.hid hown
    have HB := Lib.hid hb
    have hs := hb.size
    clear hown
    by_cases hlt : k < len
    · obtain ⟨j, hj⟩ : ∃ j : Nat, k + j + 1 = len := ⟨len - k - 1, by omega⟩
      have hje : (len : Int) - 1 - k = (j : Int) := by omega
      rw [hje]
      obtain ⟨r, hr⟩ : ∃ r, rows[j]? = some r := ⟨_, List.getElem?_eq_getElem (by rw [← HN.out]; omega)⟩
      obtain ⟨⟨ad, rfl, hbl, h0, h1⟩, _⟩ := (HL.out.below hb) j r hr
      have HR := Lib.hid hr
      have hjl : j < len := by omega
      have hw1 : IntKind.i64.wrap ((j : Int) - 1) = (j : Int) - 1 := IntWalk.i64_in _ (by omega)
      clear hr hb
      go_wp2_with (first
        | (at_builtin
           refine wpList_append_any _ rfl (.tmp 12) (.tmp 17) _ rfl w.heap.size 65 i0 _ 2 32 Tryz.underlying37 hi hz0 hz1 hz2 rfl (by omega) _ k (flat RowV.cells (rows.reverse.take k)) rfl
             (HO.out.alloc _) (wr.heap.size + 1) (some ⟨wr.heap.size, 0, none⟩) 1 1 [.slice r.A r.us.length r.c, .int .i64 r.h] rfl (reads_row _ _ _ _) (fun u hu => by simp at hu; rcases hu with rfl | rfl <;> rfl) (by simp only [maxLen]; omega) (by omega) (by simp; omega) ?_
           intro v2 w2 hown2 hg2 _
           have HO2 := Lib.hid hown2; have HG2 := Lib.hid hg2; clear hown2 hg2))
      refine ⟨⟨k + 1, by omega, ?_, ?_, ?_⟩, ?_⟩
      · congr 1
        omega
      · rw [rev_step HR.out (by rw [← HN.out]; omega), flat_append]
        simpa [flat, RowV.cells] using HO2.out
      · exact (HB.out.alloc (by omega) _).grown HG2.out (by simp; omega) (fun g hg => (HO.out.lt g hg).1)
      · simp [intOf]
    · have hke : k = len := by omega
      subst hke
      obtain ⟨A', c', rfl⟩ := own_form HO.out
      have hje : (k : Int) - 1 - k = -1 := by omega
      rw [hje]
      go_wp2
      go_ret
      have ht : rows.reverse.take k = rows.reverse := List.take_of_length_le (by rw [List.length_reverse, ← HN.out]; exact Nat.le_refl _)
      have HO2 := HO.out
      rw [ht] at HO2
      exact ⟨A', c', rfl, HO2, hb⟩

end Go.Proofs.YtffgkocokkhahaaGreatDoor

/- laws.sorted: rows put in order by hand. PRINTED BY wip/tpl/gen_xlt.py. -/
namespace Go.Proofs.YtffgkocokkhahaaGreatDoor
open Go.RowKit

def cutP (g cap l s : Nat) : Option Addr := if cap = l then some ⟨g, 0, none⟩ else some ⟨g, l * s, none⟩

theorem run_from {P : Program} {t E s : Nat} (ht : P.underlying t = some (.slice E)) (hs : (P.info? E).map (·.size) = some s) (g n cap l : Nat) (hl : l ≤ n) (w : World) :
    (Instr.sliceAt t (.slice (some ⟨g, 0, none⟩) n cap) (some (.int .i64 (l : Int))) none none).run P w = .ok (.slice (cutP g cap l s) (n - l) (cap - l)) w := by
  have he : P.elem t = E := by simp [Program.elem, ht]
  have h' : P.underlying t = some (.slice (P.elem t)) := by rw [he]; exact ht
  rw [run_sliceAt_slice (h := h'), run_slice_l (ht := h') (h0 := by omega) (h1 := by omega), he]
  obtain ⟨i, hq, hi⟩ := Option.map_eq_some_iff.1 hs
  have hz : (sizeOf E).run P w = .ok s w := by simp [sizeOf, typeInfo, hq, hi]
  rw [hz]
  simp only [Result.andThen, sliced, cutP]
  by_cases h : cap = l
  · simp [h]
  · simp [h, add_mk]

theorem own_some {w : World} {B : Nat} {e : TypeId} {s : Nat} {v : Value} {n : Nat} {xs : List Value} (h : w.ownsRow B e s v n xs) (hn : 0 < n) :
    ∃ g cap cur, v = .slice (some ⟨g, 0, none⟩) n cap ∧ B ≤ g ∧ w.heap[g]? = some (.cells cur e (0, 0)) ∧ n ≤ cap ∧ cap ≤ maxLen ∧ cur.size = cap * s ∧ cur.toList.take (n * s) = xs := by
  rcases h.2 with ⟨_, h0⟩ | h
  · omega
  · exact h

theorem cur_split {cur : Array Value} {n : Nat} {xs : List Value} (h : cur.toList.take n = xs) : cur.toList = xs ++ cur.toList.drop n := by rw [← h, List.take_append_drop]

/-- A row put among a slice's rows: the later ones moved on, its cells set. -/
theorem own_ins {W w3 : World} {g cap k p B : Nat} {T : TypeId} {cur : Array Value} {ws : List RowV} {r : RowV} {zc : List Value} (hlen : ws.length = k) (hp : p ≤ k) (hcur : cur.toList.take ((k + 1) * 2) = flat RowV.cells ws ++ zc) (hz : zc.length = 2) (hsz : cur.size = cap * 2) (hnc : k + 1 ≤ cap) (hcm : cap ≤ maxLen) (hge : B ≤ g)
    (h3 : w3.heap[g]? = some (.cells (splice cur.toList ((p + 1) * 2) (flat RowV.cells (ws.drop p))).toArray T (0, 0))) (hW : W = (w3.setCell ⟨g, p * 2, none⟩ (.slice r.A r.us.length r.c)).setCell ⟨g, p * 2 + 1, none⟩ (.int .i64 r.h)) :
    W.ownsRow B T 2 (.slice (some ⟨g, 0, none⟩) (k + 1) cap) (k + 1) (flat RowV.cells (ws.take p ++ r :: ws.drop p)) := by
  have hfl : (flat RowV.cells (ws.take p ++ r :: ws.drop p)).length = (k + 1) * 2 := by rw [flat_length RowV.cells 2 RowV.two, List.length_append, List.length_take, List.length_cons, List.length_drop]; omega
  have hfd : (flat RowV.cells (ws.drop p)).length = (k - p) * 2 := by rw [flat_length RowV.cells 2 RowV.two, List.length_drop, hlen]
  have hcl : cur.toList.length = cap * 2 := by rw [← hsz]; simp
  have hsp : (splice cur.toList ((p + 1) * 2) (flat RowV.cells (ws.drop p))).length = cap * 2 := by rw [length_splice _ _ _ (by rw [hfd, hcl]; omega), hcl]
  have hL : ((splice cur.toList ((p + 1) * 2) (flat RowV.cells (ws.drop p))).set (p * 2) (.slice r.A r.us.length r.c)).set (p * 2 + 1) (.int .i64 r.h) = flat RowV.cells (ws.take p ++ r :: ws.drop p) ++ cur.toList.drop ((k + 1) * 2) := by
    rw [set2_splice _ _ _ _ (by rw [hsp]; omega), cur_split hcur, List.append_assoc]
    have hd : (flat RowV.cells ws ++ (zc ++ cur.toList.drop ((k + 1) * 2))).drop ((k + 1) * 2) = cur.toList.drop ((k + 1) * 2) := by
      rw [← List.append_assoc, ← hcur, List.take_append_drop]
    rw [hd]
    exact ins_cells hz (by omega)
  refine ⟨hfl, .inr ⟨g, cap, (flat RowV.cells (ws.take p ++ r :: ws.drop p) ++ cur.toList.drop ((k + 1) * 2)).toArray, rfl, hge, ?_, hnc, hcm, ?_, ?_⟩⟩
  · rw [hW, heap_setCell_at, heap_setCell_at, h3]
    simp only [Option.map_some, updObj_cells, List.setIfInBounds_toArray]
    rw [hL]
  · rw [← hL]
    simp [hsp]
  · rw [List.toList_toArray, List.take_append_of_le_length (by omega), List.take_of_length_le (by omega)]

theorem one_rows (ws : List RowV) : ∀ v ∈ flat RowV.cells ws, v.oneCell' = true := by
  intro v hv
  obtain ⟨r, _, hr⟩ := List.mem_flatMap.1 hv
  simp [RowV.cells] at hr
  rcases hr with rfl | rfl <;> rfl

theorem srow : (Tryz.prog.info? 65).map (·.size) = some 2 := by kernel_rfl

def SortedP (rows : List RowV) (w : World) (y : Ending) (w' : World) : Prop :=
  ∃ A c ws, y = .returned (.slice A rows.length c) ∧ w'.ownsRow w.heap.size 65 2 (.slice A rows.length c) rows.length (flat RowV.cells ws) ∧ ws.length = rows.length ∧ ws.map RowV.key = sortK (rows.map RowV.key) ∧ (∀ r ∈ ws, r ∈ rows) ∧ Below w.heap.size w w'

theorem sort_place {rows ws : List RowV} {n k p : Nat} {r : RowV} (hg : RowsGood rows n) (hr : rows[k]? = some r) (hws : ws.map RowV.key = sortK ((rows.map RowV.key).take k)) (hlen : ws.length = k) (hp : p ≤ k) (h1 : ∀ (t : Nat) (x : RowV), p ≤ t → ws[t]? = some x → r.key.c x.key < 0) (h2 : ∀ (i : Nat) (x : RowV), p = i + 1 → ws[i]? = some x → ¬ r.key.c x.key < 0) :
    (ws.take p ++ r :: ws.drop p).map RowV.key = sortK ((rows.map RowV.key).take (k + 1)) := by
  have hk : (rows.map RowV.key)[k]? = some r.key := by rw [List.getElem?_map, hr]; rfl
  obtain ⟨g, hpos⟩ := hg.keys.place hk
  have hat : ∀ (j : Nat) (x : RowV), ws[j]? = some x → signK r.key (sortK ((rows.map RowV.key).take k)) j = r.key.c x.key := fun j x hx => signK_at (by rw [← hws, List.getElem?_map, hx]; rfl)
  have hl : (sortK ((rows.map RowV.key).take k)).length = k := by rw [← hws, List.length_map, hlen]
  have hgp : p = g := by
    refine scan_pos hpos (by omega) (fun j hj hjn => ?_) (fun i hi => ?_)
    · rw [hat j ws[j] (List.getElem?_eq_getElem (by omega))]
      exact h1 j _ hj (List.getElem?_eq_getElem (by omega))
    · rw [hat i ws[i] (List.getElem?_eq_getElem (by omega))]
      exact h2 i _ hi (List.getElem?_eq_getElem (by omega))
  subst hgp
  rw [map_key_insR, hws, take_snoc hk, sortK_snoc, insK_pos hpos]

set_option maxRecDepth 100000 in
set_option maxHeartbeats 3200000 in
theorem sorted_any (rows : List RowV) (A : Option Addr) (c nn : Nat) (w : World) (hl : RowsAt w A rows) (hg : RowsGood rows nn) (hnn : nn ≤ 1000) (hm : rows.length ≤ 100000) :
    Calls Tryz.prog 14 #[.slice A rows.length c] w (SortedP rows w) := by
  obtain ⟨i0, hi, hz0, hz1, hz2⟩ := info_parts info_irow2
  obtain ⟨len, hlen⟩ : ∃ len, len = rows.length := ⟨_, rfl⟩
  have HL := Lib.hid hl
  have HN := Lib.hid hlen
  have HAH : Hid (∀ (r x : RowV), r ∈ rows → x ∈ rows → ∀ w', Below w.heap.size w w' → Calls Tryz.prog 27 #[.agg #[.slice r.A r.us.length r.c, .int .i64 r.h], .agg #[.slice x.A x.us.length x.c, .int .i64 x.h]] w' fun e w'' => e = .returned (.bool (decide (r.key.c x.key < 0))) ∧ Below w'.heap.size w' w'') := Lib.hid (fun r x hr hx w' hb => by
    obtain ⟨i, hi, rfl⟩ := List.getElem_of_mem hr
    obtain ⟨j, hj, rfl⟩ := List.getElem_of_mem hx
    exact ahead_any _ _ (by rw [hg.len hr, hg.len hx]) (by rw [hg.len hr]; exact hnn) (hg.conc _ hr) (hg.conc _ hx) w' ((hl i _ (List.getElem?_eq_getElem hi)).2.below hb) ((hl j _ (List.getElem?_eq_getElem hj)).2.below hb))
  have HSP := Lib.hid (fun (ws : List RowV) (k p : Nat) (r : RowV) hr hws hlen hp h1 h2 => sort_place (ws := ws) (k := k) (p := p) (r := r) hg hr hws hlen hp h1 h2)
  unfold SortedP
  rw [← hlen] at hm ⊢
  clear hl hlen hg hnn
  go_enter Tryz.func14, Tryz.ntmps14
  go_wp2
  go_loopw [3, 8] (fun out i wr => ∃ (k : Nat) (ws : List RowV), k ≤ len ∧ i = .int .i64 k ∧ wr.ownsRow w.heap.size 65 2 out k (flat RowV.cells ws) ∧ ws.length = k ∧ ws.map RowV.key = sortK ((rows.map RowV.key).take k) ∧ (∀ r ∈ ws, r ∈ rows) ∧ Below w.heap.size w wr) (fun _ i _ => len - (intOf i).toNat)
  case atStart => exact ⟨0, [], by omega, rfl, World.ownsRow_nil _ _ _ _, rfl, by simp [sortK], fun r hr => (by cases hr), Below.refl _ _⟩
  case round =>
    rename World => w1
    obtain ⟨k, ws, hk, rfl, hown, hwl, hwk, hwm, hb⟩ := hrel
    by_cases hlt : k < len
    · obtain ⟨r, hr⟩ : ∃ r, rows[k]? = some r := ⟨_, List.getElem?_eq_getElem (by rw [← HN.out]; exact hlt)⟩
      obtain ⟨⟨ad, rfl, hbl, _, _⟩, _⟩ := HL.out k r hr
      obtain ⟨A', c', rfl⟩ := own_form hown
      have HO := Lib.hid hown
      have HB := Lib.hid hb
      have HWL := Lib.hid hwl
      have HWK := Lib.hid hwk
      have HWM := Lib.hid hwm
      have HR := Lib.hid hr
      have HRM := Lib.hid (List.mem_of_getElem? hr)
      clear hown hb hwl hwk hwm hr
      go_wp2
      go_loopw [5] (fun j wi => ∃ p : Nat, p ≤ k ∧ j = .int .i64 p ∧ Below w1.heap.size w1 wi ∧ ∀ (t : Nat) (x : RowV), p ≤ t → ws[t]? = some x → r.key.c x.key < 0) (fun j _ => (intOf j).toNat)
      case atStart => exact ⟨k, Nat.le_refl _, rfl, Below.refl _ _, fun t x ht hx => by have := (List.getElem?_eq_some_iff.1 hx).1; rw [HWL.out] at this; omega⟩
      case round =>
        obtain ⟨p, hpk, rfl, hbi, hbe⟩ := hrel
        have HBE := Lib.hid hbe
        have HBW := Lib.hid (up_below' HB.out hbi)
        have HOW := Lib.hid (own_below HO.out hbi)
        obtain ⟨⟨ad2, had2, hblr, h0, h1⟩, _⟩ := (HL.out.below HBW.out) k r HR.out
        obtain rfl := Option.some.inj had2
        have p0 : ∀ z : BW wr, z.w.cell? (ad.add (k * 2)) = some (.slice r.A r.us.length r.c) := fun z => (z.h.cell hblr).trans h0
        have p1 : ∀ z : BW wr, z.w.cell? ⟨(ad.add (k * 2)).block, (ad.add (k * 2)).off + 1, none⟩ = some (.int .i64 r.h) := fun z => (z.h.cell (by exact hblr)).trans h1
        have hsr := HBW.out.size
        have HBI := Lib.hid hbi
        clear hbe hbi h0 h1 had2
        rcases Nat.eq_zero_or_pos p with hp0 | hp0
        · have hp1 : ¬ 0 < p := by omega
          have HP0 := Lib.hid hp0
          clear hp0
          go_wp2
          refine wp_region_bw (by kernel_rfl) (by kernel_rfl) ?_
          repeat (go_big_quiet_step ((first | fail)))
          refine wpQuiet_nil ?_
          intro _ hw'
          obtain ⟨pq, hw''⟩ := hw'
          subst hw''
          have HIN := Lib.hid (HSP.out ws k p r HR.out HWK.out HWL.out hpk HBE.out (fun i x h _ => by have := HP0.out; omega))
          have HOV := Lib.hid (own_below HOW.out pq.h)
          have HBV := Lib.hid (up_below' HBW.out pq.h)
          have hsv := HBV.out.size
          go_wp2_with (first
            | (at_builtin
               refine wpList_append_any _ rfl (.tmp 29) (.tmp 31) _ rfl w.heap.size 65 i0 _ 2 32 Tryz.underlying37 hi hz0 hz1 hz2 rfl (by omega) _ k (flat RowV.cells ws) rfl
                 (HOV.out.alloc _) (pq.w.heap.size + 1) (some ⟨pq.w.heap.size, 0, none⟩) 1 1 [.slice none 0 0, .int .i64 0] rfl (reads_row _ _ _ _) (fun u hu => by simp at hu; rcases hu with rfl | rfl <;> rfl) (by simp only [maxLen]; omega) (by omega) (by simp; omega) ?_
               intro v2 w2 hown2 hg2 hat2
               have HO2 := Lib.hid hown2; have HG2 := Lib.hid hg2; have HA2 := Lib.hid hat2; clear hown2 hg2 hat2))
          obtain ⟨g, cap, cur, rfl, hge, hgh, hnc, hcm, hsz, htk⟩ := own_some HO2.out (by omega)
          obtain ⟨q1, hq1⟩ : ∃ q1 : Nat, q1 = p + 1 := ⟨_, rfl⟩
          have hs1 : (p : Int) + 1 = (q1 : Int) := by omega
          have hs2 : IntKind.i64.wrap (q1 : Int) = (q1 : Int) := IntWalk.i64_in _ (by omega)
          have hcut1 := fun W => run_from (P := Tryz.prog) Tryz.underlying37 srow g (k + 1) cap q1 (by omega) W
          have hcut2 := fun W => run_from (P := Tryz.prog) Tryz.underlying37 srow g (k + 1) cap p (by omega) W
          have HFD : Hid ((flat RowV.cells (ws.drop p)).length = (k - p) * 2) := Lib.hid (by rw [flat_length RowV.cells 2 RowV.two, List.length_drop, HWL.out])
          have HGH := Lib.hid hgh
          have HTK := Lib.hid htk
          have HSZ := Lib.hid hsz
          have HCM := Lib.hid hcm
          have HQ1 := Lib.hid hq1
          have HFL : Hid (∀ (j : Nat) (v : Value), (flat RowV.cells (ws.drop p))[j]? = some v → cur[p * 2 + j]? = some v) := Lib.hid (fun j v h => by
            have h1 : (flat RowV.cells ws)[p * 2 + j]? = some v := by
              rw [← flat_drop RowV.cells 2 RowV.two, List.getElem?_drop] at h
              exact h
            have h2 := (List.getElem?_eq_some_iff.1 h1).1
            rw [← Array.getElem?_toList, cur_split htk, List.append_assoc, List.getElem?_append_left h2]
            exact h1)
          clear hgh htk hsz hcm hq1
          go_still_tail 7, (by kernel_rfl)
          change wpList _ _ _ _ _ (w2.drew)
          refine wpList_copy_rows rfl (.tmp 36) (.tmp 39) 37 37 rfl 65 2 Tryz.underlying37 srow (cutP g cap q1 2) (cutP g cap p 2) (k + 1 - q1) (cap - q1) (k + 1 - p) (cap - p) rfl rfl
            g (q1 * 2) cur 65 HGH.out (flat RowV.cells (ws.drop p)) ?c2 (by omega) ?c3 ?c4 (one_rows _) ?_
          case c2 => rw [HFD.out, HQ1.out, show Nat.min (k + 1 - p) (k + 1 - (p + 1)) = k + 1 - (p + 1) from Nat.min_eq_right (by omega)]; omega
          case c3 =>
            intro hpos
            rw [HFD.out] at hpos
            refine ⟨by unfold cutP; rw [if_neg (by have := HQ1.out; omega)], ⟨g, p * 2, none⟩, by unfold cutP; rw [if_neg (by omega)], fun j v h => ?_⟩
            rw [add_mk]
            exact (cell_of_heap (w := w2) HGH.out _).trans (HFL.out j v h)
          case c4 => rw [HFD.out, HSZ.out, HQ1.out]; omega
          intro w3 HG3 HC3
          rw [HQ1.out] at HG3
          obtain ⟨L, hL⟩ : ∃ L, L = splice cur.toList ((p + 1) * 2) (flat RowV.cells (ws.drop p)) := ⟨_, rfl⟩
          have hLl : L.length = cap * 2 := by
            have h1 : cur.toList.length = cap * 2 := by rw [← HSZ.out]; simp
            rw [hL, length_splice _ _ _ (by rw [HFD.out, h1]; omega), h1]
          have HG3' : Hid (w3.heap[g]? = some (.cells L.toArray 65 (0, 0))) := by rw [hL]; exact HG3
          have HLQ := Lib.hid hL
          obtain ⟨u1, cu1⟩ : ∃ u, w3.cell? ⟨g, p * 2, none⟩ = some u := ⟨L[p * 2]'(by omega), by rw [cell_of_heap HG3'.out, List.getElem?_toArray]; exact List.getElem?_eq_getElem _⟩
          obtain ⟨u2, cu2⟩ : ∃ u, w3.cell? ⟨g, p * 2 + 1, none⟩ = some u := ⟨L[p * 2 + 1]'(by omega), by rw [cell_of_heap HG3'.out, List.getElem?_toArray]; exact List.getElem?_eq_getElem _⟩
          have fu1 := free_of_heap HG3'.out (p * 2)
          have fu2 := free_of_heap HG3'.out (p * 2 + 1)
          have HB2 : Hid (Below w.heap.size w w2) := Lib.hid (HBV.out.trans ((((Chg.refl (fun z => Value.ownBlock _ = some z) pq.w).alloc _).next (Chg.of_grown HG2.out) (fun z _ h => h.symm)).below hsv (fun z hz => own_ge HOV.out hz)))
          have HB3 : Hid (Below w.heap.size w w3) := Lib.hid ((HB2.out.drew).trans (HC3.out.below HB2.out.size (fun z e => by omega)))
          obtain ⟨⟨ad3, had3, hbl3, b0, b1⟩, _⟩ := (HL.out.below HB3.out) k r HR.out
          obtain rfl := Option.some.inj had3
          have hpk1 : p < k + 1 := by omega
          clear hL had3
          go_wp2
          refine ⟨⟨k + 1, ws.take p ++ r :: ws.drop p, by omega, by push_cast; rfl, own_ins HWL.out hpk HTK.out rfl HSZ.out hnc HCM.out hge (by rw [← HLQ.out]; exact HG3'.out) rfl, ?_, HIN.out, fun y hy => ?_, ?_⟩, by simp [intOf]; omega⟩
          · rw [List.length_append, List.length_take, List.length_cons, List.length_drop, HWL.out]
            omega
          · rcases List.mem_append.1 hy with h | h
            · exact HWM.out y (List.mem_of_mem_take h)
            · rcases List.mem_cons.1 h with rfl | h
              · exact HRM.out
              · exact HWM.out y (List.mem_of_mem_drop h)
          · exact Below.setCell (p := ⟨g, _, none⟩) (Below.setCell (p := ⟨g, _, none⟩) HB3.out hge _) hge _
        · obtain ⟨q, hq⟩ : ∃ q : Nat, p = q + 1 := ⟨p - 1, by omega⟩
          obtain ⟨x, hx⟩ : ∃ x, ws[q]? = some x := ⟨_, List.getElem?_eq_getElem (by rw [HWL.out]; omega)⟩
          have hxm := HWM.out x (List.mem_of_getElem? hx)
          have HROW := rows_own HOW.out HWL.out (fun i y hy => by
            obtain ⟨j, hj, e⟩ := List.getElem_of_mem (HWM.out y (List.mem_of_getElem? hy))
            have := (HL.out.below HBW.out) j y (by rw [← e]; exact List.getElem?_eq_getElem hj)
            exact this.2)
          obtain ⟨⟨bd, rfl, hblx, g0, g1⟩, _⟩ := HROW q x hx
          have q0 : ∀ z : BW wr, z.w.cell? (bd.add (q * 2)) = some (.slice x.A x.us.length x.c) := fun z => (z.h.cell hblx).trans g0
          have q1 : ∀ z : BW wr, z.w.cell? ⟨(bd.add (q * 2)).block, (bd.add (q * 2)).off + 1, none⟩ = some (.int .i64 x.h) := fun z => (z.h.cell (by exact hblx)).trans g1
          have HC : Hid (∀ z : BW wr, Calls Tryz.prog 27 #[.agg #[.slice r.A r.us.length r.c, .int .i64 r.h], .agg #[.slice x.A x.us.length x.c, .int .i64 x.h]] z.w fun e w'' => e = .returned (.bool (decide (r.key.c x.key < 0))) ∧ Below z.w.heap.size z.w w'') := Lib.hid (fun z => HAH.out r x HRM.out hxm z.w (up_below' HBW.out z.h))
          have HX := Lib.hid hx
          have hp1 : (0 : Int) < (p : Int) := by omega
          have hw1 : (p : Int) - 1 = (q : Int) := by omega
          have hw2 : IntKind.i64.wrap (q : Int) = (q : Int) := IntWalk.i64_in _ (by omega)
          have hql : q < k := by omega
          have HQQ := Lib.hid hq
          clear hq
          clear hx hxm HROW g0 g1
          cases hcmp : decide (r.key.c x.key < 0) with
          | true =>
            rw [hcmp] at HC
            have HCM := Lib.hid hcmp
            clear hcmp
            go_wp2
            refine wp_region_bw (by kernel_rfl) (by kernel_rfl) ?_
            repeat (go_big_quiet_step ((go_at_call 27; exact bw_of (HC.out _))))
            refine wpQuiet_nil ?_
            intro _ hw'
            obtain ⟨pq, hw''⟩ := hw'
            subst hw''
            go_wp2
            refine ⟨⟨q, by omega, rfl, up_below' HBI.out pq.h, fun t y ht hy => ?_⟩, by have := HQQ.out; simp [intOf]; omega⟩
            rcases Nat.lt_or_ge t p with h | h
            · obtain rfl : t = q := by have := HQQ.out; omega
              obtain rfl : y = x := Option.some.inj (hy.symm.trans HX.out)
              simpa using HCM.out
            · exact HBE.out t y h hy
          | false =>
            rw [hcmp] at HC
            have HIN := Lib.hid (HSP.out ws k p r HR.out HWK.out HWL.out hpk HBE.out (fun i y h hy => by
              obtain rfl : i = q := by have := HQQ.out; omega
              obtain rfl : y = x := Option.some.inj (hy.symm.trans HX.out)
              simpa using hcmp))
            clear hcmp
            go_wp2
            refine wp_region_bw (by kernel_rfl) (by kernel_rfl) ?_
            repeat (go_big_quiet_step ((go_at_call 27; exact bw_of (HC.out _))))
            refine wpQuiet_nil ?_
            intro _ hw'
            obtain ⟨pq, hw''⟩ := hw'
            subst hw''
            have HOV := Lib.hid (own_below HOW.out pq.h)
            have HBV := Lib.hid (up_below' HBW.out pq.h)
            have hsv := HBV.out.size
            go_wp2_with (first
              | (at_builtin
                 refine wpList_append_any _ rfl (.tmp 29) (.tmp 31) _ rfl w.heap.size 65 i0 _ 2 32 Tryz.underlying37 hi hz0 hz1 hz2 rfl (by omega) _ k (flat RowV.cells ws) rfl
                   (HOV.out.alloc _) (pq.w.heap.size + 1) (some ⟨pq.w.heap.size, 0, none⟩) 1 1 [.slice none 0 0, .int .i64 0] rfl (reads_row _ _ _ _) (fun u hu => by simp at hu; rcases hu with rfl | rfl <;> rfl) (by simp only [maxLen]; omega) (by omega) (by simp; omega) ?_
                 intro v2 w2 hown2 hg2 hat2
                 have HO2 := Lib.hid hown2; have HG2 := Lib.hid hg2; have HA2 := Lib.hid hat2; clear hown2 hg2 hat2))
            obtain ⟨g, cap, cur, rfl, hge, hgh, hnc, hcm, hsz, htk⟩ := own_some HO2.out (by omega)
            obtain ⟨q1, hq1⟩ : ∃ q1 : Nat, q1 = p + 1 := ⟨_, rfl⟩
            have hs1 : (p : Int) + 1 = (q1 : Int) := by omega
            have hs2 : IntKind.i64.wrap (q1 : Int) = (q1 : Int) := IntWalk.i64_in _ (by omega)
            have hcut1 := fun W => run_from (P := Tryz.prog) Tryz.underlying37 srow g (k + 1) cap q1 (by omega) W
            have hcut2 := fun W => run_from (P := Tryz.prog) Tryz.underlying37 srow g (k + 1) cap p (by omega) W
            have HFD : Hid ((flat RowV.cells (ws.drop p)).length = (k - p) * 2) := Lib.hid (by rw [flat_length RowV.cells 2 RowV.two, List.length_drop, HWL.out])
            have HGH := Lib.hid hgh
            have HTK := Lib.hid htk
            have HSZ := Lib.hid hsz
            have HCM := Lib.hid hcm
            have HQ1 := Lib.hid hq1
            have HFL : Hid (∀ (j : Nat) (v : Value), (flat RowV.cells (ws.drop p))[j]? = some v → cur[p * 2 + j]? = some v) := Lib.hid (fun j v h => by
              have h1 : (flat RowV.cells ws)[p * 2 + j]? = some v := by
                rw [← flat_drop RowV.cells 2 RowV.two, List.getElem?_drop] at h
                exact h
              have h2 := (List.getElem?_eq_some_iff.1 h1).1
              rw [← Array.getElem?_toList, cur_split htk, List.append_assoc, List.getElem?_append_left h2]
              exact h1)
            clear hgh htk hsz hcm hq1
            go_still_tail 7, (by kernel_rfl)
            change wpList _ _ _ _ _ (w2.drew)
            refine wpList_copy_rows rfl (.tmp 36) (.tmp 39) 37 37 rfl 65 2 Tryz.underlying37 srow (cutP g cap q1 2) (cutP g cap p 2) (k + 1 - q1) (cap - q1) (k + 1 - p) (cap - p) rfl rfl
              g (q1 * 2) cur 65 HGH.out (flat RowV.cells (ws.drop p)) ?c2 (by omega) ?c3 ?c4 (one_rows _) ?_
            case c2 => rw [HFD.out, HQ1.out, show Nat.min (k + 1 - p) (k + 1 - (p + 1)) = k + 1 - (p + 1) from Nat.min_eq_right (by omega)]; omega
            case c3 =>
              intro hpos
              rw [HFD.out] at hpos
              refine ⟨by unfold cutP; rw [if_neg (by have := HQ1.out; omega)], ⟨g, p * 2, none⟩, by unfold cutP; rw [if_neg (by omega)], fun j v h => ?_⟩
              rw [add_mk]
              exact (cell_of_heap (w := w2) HGH.out _).trans (HFL.out j v h)
            case c4 => rw [HFD.out, HSZ.out, HQ1.out]; omega
            intro w3 HG3 HC3
            rw [HQ1.out] at HG3
            obtain ⟨L, hL⟩ : ∃ L, L = splice cur.toList ((p + 1) * 2) (flat RowV.cells (ws.drop p)) := ⟨_, rfl⟩
            have hLl : L.length = cap * 2 := by
              have h1 : cur.toList.length = cap * 2 := by rw [← HSZ.out]; simp
              rw [hL, length_splice _ _ _ (by rw [HFD.out, h1]; omega), h1]
            have HG3' : Hid (w3.heap[g]? = some (.cells L.toArray 65 (0, 0))) := by rw [hL]; exact HG3
            have HLQ := Lib.hid hL
            obtain ⟨u1, cu1⟩ : ∃ u, w3.cell? ⟨g, p * 2, none⟩ = some u := ⟨L[p * 2]'(by omega), by rw [cell_of_heap HG3'.out, List.getElem?_toArray]; exact List.getElem?_eq_getElem _⟩
            obtain ⟨u2, cu2⟩ : ∃ u, w3.cell? ⟨g, p * 2 + 1, none⟩ = some u := ⟨L[p * 2 + 1]'(by omega), by rw [cell_of_heap HG3'.out, List.getElem?_toArray]; exact List.getElem?_eq_getElem _⟩
            have fu1 := free_of_heap HG3'.out (p * 2)
            have fu2 := free_of_heap HG3'.out (p * 2 + 1)
            have HB2 : Hid (Below w.heap.size w w2) := Lib.hid (HBV.out.trans ((((Chg.refl (fun z => Value.ownBlock _ = some z) pq.w).alloc _).next (Chg.of_grown HG2.out) (fun z _ h => h.symm)).below hsv (fun z hz => own_ge HOV.out hz)))
            have HB3 : Hid (Below w.heap.size w w3) := Lib.hid ((HB2.out.drew).trans (HC3.out.below HB2.out.size (fun z e => by omega)))
            obtain ⟨⟨ad3, had3, hbl3, b0, b1⟩, _⟩ := (HL.out.below HB3.out) k r HR.out
            obtain rfl := Option.some.inj had3
            have hpk1 : p < k + 1 := by omega
            clear hL had3
            go_wp2
            refine ⟨⟨k + 1, ws.take p ++ r :: ws.drop p, by omega, by push_cast; rfl, own_ins HWL.out hpk HTK.out rfl HSZ.out hnc HCM.out hge (by rw [← HLQ.out]; exact HG3'.out) rfl, ?_, HIN.out, fun y hy => ?_, ?_⟩, by simp [intOf]; omega⟩
            · rw [List.length_append, List.length_take, List.length_cons, List.length_drop, HWL.out]
              omega
            · rcases List.mem_append.1 hy with h | h
              · exact HWM.out y (List.mem_of_mem_take h)
              · rcases List.mem_cons.1 h with rfl | h
                · exact HRM.out
                · exact HWM.out y (List.mem_of_mem_drop h)
            · exact Below.setCell (p := ⟨g, _, none⟩) (Below.setCell (p := ⟨g, _, none⟩) HB3.out hge _) hge _
    · have hke : k = len := by omega
      subst hke
      obtain ⟨A', c', rfl⟩ := own_form hown
      have HO := Lib.hid hown
      have HB := Lib.hid hb
      clear hown hb
      go_wp2
      go_ret
      rw [List.take_of_length_le (by rw [List.length_map, ← HN.out]; exact Nat.le_refl _)] at hwk
      exact ⟨A', c', ws, rfl, HO.out, hwl, hwk, hwm, HB.out⟩

end Go.Proofs.YtffgkocokkhahaaGreatDoor

/- laws.keeps: an index has what was put into it. -/
namespace Go.Proofs.YtffgkocokkhahaaGreatDoor
open Go.RowKit

/-- The answers to so many deeds, and what is found from an end, in memory. -/
theorem ans_cell {w : World} {n g : Nat} {cur : Array Value} {e : TypeId} {av : List AnsV} (hh : w.heap[g]? = some (.cells cur e (0, 0))) (ht : cur.toList.take (n * 3) = flat AnsV.cells av) {j : Nat} {a : AnsV} (ha : av[j]? = some a) :
    w.cell? ⟨g, j * 3, none⟩ = some (.int .i64 0) ∧ w.cell? ⟨g, j * 3 + 1, none⟩ = some (.bool false) ∧ w.cell? ⟨g, j * 3 + 2, none⟩ = some a.R := by
  have h : ∀ (i : Nat) (v : Value), i < 3 → a.cells[i]? = some v → w.cell? ⟨g, j * 3 + i, none⟩ = some v := fun i v hi hv => by
    have h1 := flat_at AnsV.cells 3 AnsV.three av j a i v ha hi hv
    have h2 := (List.getElem?_eq_some_iff.1 h1).1
    rw [cell_of_heap hh, ← Array.getElem?_toList, cur_split ht, List.getElem?_append_left h2]
    exact h1
  exact ⟨h 0 _ (by omega) rfl, h 1 _ (by omega) rfl, h 2 _ (by omega) rfl⟩

/-- A row of an answer. -/
theorem row_cell {B : Nat} {w : World} {ks : List Key} {R : Value} {rs : List RowV} (h : AnsRows B w ks R rs) {k : Key} (hk : ks = [k]) : ∃ g cap, R = .slice (some ⟨g, 0, none⟩) 1 cap ∧ w.cell? ⟨g, 1, none⟩ = some (.int .i64 k.h) := by
  subst hk
  obtain ⟨g, cap, cur, rfl, _, hh, _, _, _, ht⟩ := own_some h.own (by simp)
  obtain ⟨r, hr⟩ : ∃ r, rs = [r] := by
    have := h.len
    match rs, this with
    | [r], _ => exact ⟨r, rfl⟩
  subst hr
  refine ⟨g, cap, rfl, ?_⟩
  have h1 := flat_at RowV.cells 2 RowV.two [r] 0 r 1 _ rfl (by omega) rfl
  have h2 := (List.getElem?_eq_some_iff.1 h1).1
  rw [cell_of_heap hh, ← Array.getElem?_toList, cur_split ht, List.getElem?_append_left h2, h1, (h.rows 0 k r rfl rfl).h]
  rfl

def keepsRow (b : Nat) : RowV := ⟨some ⟨b, 0, none⟩, 1, 7, [numV 1]⟩

theorem keeps_good (b : Nat) : RowsGood [keepsRow b] 1 := by
  refine ⟨⟨fun x hx => ?_, fun i j a c hij ha hc => ?_⟩, fun r hr => ?_, fun r hr => ?_, fun r hr => ?_⟩
  · obtain rfl : x = (keepsRow b).key := by simpa using hx
    rfl
  · have h1 := (List.getElem?_eq_some_iff.1 hc).1
    simp at h1
    omega
  all_goals
    obtain rfl := List.mem_singleton.1 hr
  · exact numV_conc.1
  · show (1 : Int) ≤ 7
    decide
  · show (7 : Int) ≤ 9223372036854775807
    decide

def KeepsP (W : World) (y : Ending) (w' : World) : Prop :=
  ∃ g cap g5 cap5, y = .returned (.slice (some ⟨g, 0, none⟩) 2 cap) ∧ w'.cell? ⟨g, 0, none⟩ = some (.int .i64 0) ∧ w'.cell? ⟨g, 3, none⟩ = some (.int .i64 0) ∧ w'.cell? ⟨g, 5, none⟩ = some (.slice (some ⟨g5, 0, none⟩) 1 cap5) ∧ w'.cell? ⟨g5, 1, none⟩ = some (.int .i64 7) ∧ Below W.heap.size W w'

theorem keeps_index {W : World} {b : Nat} {E : Value} (hE : HasEof W E) (hA : LAt W (some ⟨b, 0, none⟩) [numV 1]) {t : TypeId} {fr : Nat × Nat} {g : Nat} (hg : W.heap[g]? = some (.cells #[.string ⟨#[99, 114, 101, 97, 116, 101]⟩, .slice (some ⟨b, 0, none⟩) 1 1, .int .i64 7, .int .i64 0, .string ⟨#[102, 105, 114, 115, 116]⟩, .slice none 0 0, .int .i64 0, .int .i64 1] t fr)) :
    Calls Tryz.prog 13 #[.bool false, .slice (some ⟨g, 0, none⟩) 2 2] W (KeepsP W) := by
  have hd : DeedsAt W (some ⟨g, 0, none⟩) ([keepsRow b].map RowV.deed ++ [true].map (endDeed 1)) := by
    refine deeds_reads (n := 2) ⟨rfl, fun _ => ⟨_, rfl, lt_of_heap hg, fun j u hu => World.news_of_block hg j u hu⟩⟩ rfl (fun d hd => ?_)
    rcases List.mem_append.1 hd with h | h
    · obtain rfl := List.mem_singleton.1 h
      exact hA
    · obtain rfl := List.mem_singleton.1 h
      exact fun i x hx => by simp [endDeed] at hx
  refine (index_any (ks := [(keepsRow b).key]) (tl := [true]) (c := 2) rfl (keeps_good b) (by omega) (by omega) (by simp) (by simp) (N := 1) (by simp) (by omega) hE hd).mono ?_
  rintro y w' ⟨A, c, av, rfl, hown, hlen, hans, hb⟩
  obtain ⟨g, cap, cur, e1, _, hh, _, _, _, ht⟩ := own_some hown (by simp)
  have hA' : A = some ⟨g, 0, none⟩ := by injection e1
  subst hA'
  obtain ⟨a0, a1, rfl⟩ : ∃ a0 a1, av = [a0, a1] := by
    match av, hlen with
    | [a0, a1], _ => exact ⟨a0, a1, rfl⟩
  have c0 := ans_cell (n := 2) hh ht (j := 0) (a := a0) rfl
  have c1 := ans_cell (n := 2) hh ht (j := 1) (a := a1) rfl
  have hr := hans.rows 0 true a1 rfl rfl
  obtain ⟨g5, cap5, e5, h5⟩ := row_cell hr (k := (keepsRow b).key) rfl
  rw [e5] at c1
  exact ⟨g, c, g5, cap5, rfl, c0.1, c1.1, c1.2.2, h5, hb⟩

theorem keeps_call (w1 : World) {E : Value} (hE : HasEof w1 E) : Calls Tryz.prog 13 #[.bool false, .slice (some ⟨w1.heap.size + 1, 0, none⟩) 2 2] ((w1.alloc (.cells #[.string int64S, .int .i64 1, .int .u64 0, .float .f64 0, .string empS] 57)).alloc (.cells #[.string ⟨#[99, 114, 101, 97, 116, 101]⟩, .slice (some ⟨w1.heap.size, 0, none⟩) 1 1, .int .i64 7, .int .i64 0, .string ⟨#[102, 105, 114, 115, 116]⟩, .slice none 0 0, .int .i64 0, .int .i64 1] 43)) (KeepsP ((w1.alloc (.cells #[.string int64S, .int .i64 1, .int .u64 0, .float .f64 0, .string empS] 57)).alloc (.cells #[.string ⟨#[99, 114, 101, 97, 116, 101]⟩, .slice (some ⟨w1.heap.size, 0, none⟩) 1 1, .int .i64 7, .int .i64 0, .string ⟨#[102, 105, 114, 115, 116]⟩, .slice none 0 0, .int .i64 0, .int .i64 1] 43))) := by
  obtain ⟨W0, hW0⟩ : ∃ W0, W0 = w1.alloc (.cells #[.string int64S, .int .i64 1, .int .u64 0, .float .f64 0, .string empS] 57) := ⟨_, rfl⟩
  have hl : LAt W0 (some ⟨w1.heap.size, 0, none⟩) [numV 1] := by rw [hW0]; exact lat_new w1 (numV 1) _
  have hs : W0.heap.size = w1.heap.size + 1 := by rw [hW0]; simp
  have hb : Below w1.heap.size w1 W0 := by rw [hW0]; exact (Below.refl _ _).alloc (Nat.le_refl _) _
  rw [← hW0, ← hs]
  exact keeps_index ((hE.below hb).below ((Below.refl _ _).alloc (Nat.le_refl _) _)) (hl.below ((Below.refl _ _).alloc (Nat.le_refl _) _)) (heap_new W0 _)

set_option maxRecDepth 100000 in
set_option maxHeartbeats 1600000 in
theorem keeps_any (w : World) {E : Value} (hE : HasEof w E) : Calls Tryz.prog 12 #[] w fun e w' => e = .returned (.bool true) ∧ Below w.heap.size w w' := by
  have HE := Lib.hid hE
  clear hE
  go_enter Tryz.func12, Tryz.ntmps12
  go_wp2_with (first
    | (go_at_call 20; refine (num_any _ _).mono ?_; rintro e w1 ⟨rfl, hb1⟩; have HB1 := Lib.hid hb1; clear hb1
       have HK := Lib.hid (keeps_call w1 (HE.out.below HB1.out)))
    | (go_at_call 13
       refine HK.out.mono ?_
       rintro y w2 ⟨g, cap, g5, cap5, rfl, c0, c3, c5, d1, hb2⟩
       have HB2 := Lib.hid hb2
       clear hb2))
  go_ret
  exact ⟨rfl, up_below' (up_below' HB1.out (below_al2 w1 _ _)) HB2.out⟩

end Go.Proofs.YtffgkocokkhahaaGreatDoor
