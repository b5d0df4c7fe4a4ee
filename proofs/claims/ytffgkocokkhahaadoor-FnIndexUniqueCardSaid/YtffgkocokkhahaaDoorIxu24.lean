/-
  impl.Index: what holds between its deeds. || impl.Index of a unique index: which rows it takes; what holds between its deeds. || impl.Index of an index that is not unique: rows that are created, then what is found from its ends. || impl.Index of a unique index: rows that are created, then what is found from its first entry on. || impl.Index of a unique index, walked. PRINTED from Xij's walk (wip/tpl/XXij.lean.tpl). || A valid value that is brought (as Back, without a law's walk) into the database and out again is the same. No condition but that it is valid. || Rows that came out of an index are the same as those that were put in. || What came out of an index is a value that can be compared, as what was put in. || laws.zzFits16 (as Sl7, without impl.KeyCompare); a list of one value in new memory. || laws.zzFits17, laws.isKey, laws.filled.
-/
import Derived.Test.YtffgkocokkhahaaDoorIxu23
import Derived.Test.YtffgkocokkhahaaDoorIxu21
import Derived.Test.YtffgkocokkhahaaDoorIxu22
import Derived.Test.YtffgkocokkhahaaDoorIxu12
import Derived.Deep.RegionLaw
import Derived.Deep.AppendLies

/- impl.Index: what holds between its deeds. -/
namespace Go.Proofs.YtffgkocokkhahaaDoor
open Go.RowKit

structure IxLoop (ks : List Key) (tl : List Bool) (x kk : Nat) (w wr : World) (r : Value) (av bs : List AnsV) (M D : Nat → Prop) : Prop where
  own : wr.ownsRow w.heap.size 52 3 r av.length (flat AnsV.cells av)
  ix : Ix x (min kk ks.length) (sortK (ks.take kk)) M D wr
  eof : D 0
  ans : Answers w.heap.size wr ks tl bs
  in_ : ∀ a ∈ bs, AnsIn D a
  apart : ∀ b, r.ownBlock = some b → ¬ M b ∧ ¬ D b
  new : ∀ b, M b → w.heap.size ≤ b
  below : Below w.heap.size w wr

theorem Answers.keep {B : Nat} {S D : Nat → Prop} {w w' : World} {ks : List Key} {tl : List Bool} {bs : List AnsV} (h : Answers B w ks tl bs) (hi : ∀ a ∈ bs, AnsIn D a) (hc : Chg S w w') (hn : ∀ k, D k → ¬ S k) : Answers B w' ks tl bs :=
  ⟨h.nil, fun j b a hj ha => (h.rows j b a hj ha).keep (hi a (List.mem_of_getElem? ha)) hc hn⟩

variable {ks : List Key} {tl : List Bool} {x kk : Nat} {w wr w1 w2 w3 : World} {r : Value} {av bs : List AnsV} {M D : Nat → Prop}

theorem IxLoop.under (h : IxLoop ks tl x kk w wr r av bs M D) (hb : Below wr.heap.size wr w1) : IxLoop ks tl x kk w w1 r av bs M D :=
  ⟨own_below h.own hb, h.ix.below hb, h.eof, h.ans.keep h.in_ (Chg.of_below (S := fun _ => False) hb) (fun _ _ h => h), h.in_, h.apart, h.new, up_below' h.below hb⟩

theorem IxLoop.create (h : IxLoop ks tl x kk w wr r av av M D) (hkk : av.length = kk) {key : Key} (hkey : ks[kk]? = some key) {y : Ending} (hd : DeedCreateP x (min kk ks.length + 1) (insK key (sortK (ks.take kk))) M D wr y w2) :
    y = .returned (.agg #[.int .i64 0, .bool false, .slice none 0 0]) ∧ ∃ M' D', IxLoop ks tl x (kk + 1) w w2 r av (av ++ [⟨.slice none 0 0, []⟩]) M' D' := by
  obtain ⟨rfl, M', D', hx, hc, hD, hM', hD'⟩ := hd
  have hlt := (List.getElem?_eq_some_iff.1 hkey).1
  have hs := h.below.size
  refine ⟨rfl, M', D', own_chg h.own hc (fun b hb => (h.apart b hb).1), ?_, hD _ h.eof, ⟨fun j a hj ha => ?_, fun j b a hj ha => ?_⟩, fun a ha => ?_, fun b hb => ?_, fun b hb => ?_, h.below.trans (hc.below hs h.new)⟩
  · rw [take_snoc hkey, sortK_snoc]
    rw [show min (kk + 1) ks.length = min kk ks.length + 1 by omega]
    exact hx
  · rcases Nat.lt_or_ge j av.length with h1 | h1
    · rw [List.getElem?_append_left h1] at ha
      exact h.ans.nil j a hj ha
    · rw [List.getElem?_append_right h1] at ha
      cases hj0 : j - av.length with
      | zero =>
        rw [hj0] at ha
        obtain rfl := Option.some.inj ha
        rfl
      | succ i =>
        rw [hj0] at ha
        cases ha
  · have := (List.getElem?_eq_some_iff.1 ha).1
    simp at this
    omega
  · rcases List.mem_append.1 ha with h1 | h1
    · exact (h.in_ a h1).mono hD
    · obtain rfl := List.mem_singleton.1 h1
      exact ⟨fun b hb => (by cases hb), fun r hr => (by cases hr)⟩
  · have hlt := own_lt h.own hb
    exact ⟨fun hm => (hM' b hm).elim (h.apart b hb).1 (by omega), fun hd => (hD' b hd).elim (h.apart b hb).2 (by omega)⟩
  · exact (hM' b hb).elim (h.new b) (fun h1 => by omega)

theorem IxLoop.seek (h : IxLoop ks tl x kk w wr r av av M D) (hkk : av.length = kk) (hm : ks.length ≤ kk) {b : Bool} (hb : tl[kk - ks.length]? = some b) {a : AnsV} (ha : AnsRows wr.heap.size w2 (want ks b) a.R a.rs) (hb2 : Below wr.heap.size wr w2) :
    ∃ M' D', IxLoop ks tl x (kk + 1) w w2 r av (av ++ [a]) M' D' := by
  have hs := h.below.size
  have hs2 := hb2.size
  have hu := h.under hb2
  refine ⟨M, fun k => D k ∨ (wr.heap.size ≤ k ∧ k < w2.heap.size), hu.own, ?_, .inl h.eof, ⟨fun j a' hj ha' => ?_, fun j b' a' hj ha' => ?_⟩, fun a' ha' => ?_, fun k hk => ?_, h.new, hu.below⟩
  · have h1 := hu.ix
    rw [List.take_of_length_le (by omega), show min kk ks.length = ks.length by omega] at h1
    rw [List.take_of_length_le (by omega), show min (kk + 1) ks.length = ks.length by omega]
    exact h1.more (fun k hk => .inl hk) (fun k hk => hk.elim (h1.data k) (fun hk => ⟨hk.2, fun hM => by have := h.ix.lt hM; omega⟩))
  · rw [List.getElem?_append_left (by omega)] at ha'
    exact h.ans.nil j a' hj ha'
  · rcases Nat.lt_or_ge (ks.length + j) av.length with h1 | h1
    · rw [List.getElem?_append_left h1] at ha'
      exact hu.ans.rows j b' a' hj ha'
    · rw [List.getElem?_append_right h1] at ha'
      cases hj0 : ks.length + j - av.length with
      | zero =>
        rw [hj0] at ha'
        obtain rfl := Option.some.inj ha'
        have : j = kk - ks.length := by omega
        subst this
        obtain rfl := Option.some.inj (hb.symm.trans hj)
        exact ha.mono hs
      | succ i =>
        rw [hj0] at ha'
        cases ha'
  · rcases List.mem_append.1 ha' with h1 | h1
    · exact (h.in_ a' h1).mono (fun k hk => .inl hk)
    · obtain rfl := List.mem_singleton.1 h1
      exact ha.in_.mono (fun k hk => .inr hk)
  · have hlt := own_lt h.own hk
    exact ⟨(h.apart k hk).1, fun hd => hd.elim (h.apart k hk).2 (by omega)⟩

theorem IxLoop.append {a : AnsV} (h : IxLoop ks tl x kk w w2 r av (av ++ [a]) M D) {o : Obj} {v : Value} {n : Nat} (hn : n = av.length + 1) (hown : w3.ownsRow w.heap.size 52 3 v n (flat AnsV.cells av ++ a.cells)) (hg : (w2.alloc o).grownBy w3 r.ownBlock)
    (hat : v.ownBlock = r.ownBlock ∨ v.ownBlock = some (w2.alloc o).heap.size) : IxLoop ks tl x kk w w3 v (av ++ [a]) (av ++ [a]) M D := by
  subst hn
  have hc : Chg (fun k => r.ownBlock = some k) w2 w3 := ((Chg.refl _ w2).alloc o).next (Chg.of_grown hg) (fun z _ h => h.symm)
  have hz : (w2.alloc o).heap.size = w2.heap.size + 1 := by simp
  refine ⟨?_, h.ix.chg hc (fun k hk e => (h.apart k e).1 hk) (fun k hk e => (h.apart k e).2 hk), h.eof, h.ans.keep h.in_ hc (fun k hk e => (h.apart k e).2 hk), h.in_, fun b hb => ?_, h.new, h.below.trans (hc.below h.below.size (fun k hk => own_ge h.own hk))⟩
  · rw [flat_append, List.length_append]
    simpa [flat] using hown
  · rcases hat with h1 | h1
    · exact h.apart b (h1 ▸ hb)
    · rw [hb] at h1
      have h2 := Option.some.inj h1
      exact ⟨fun hm => by have := h.ix.lt hm; omega, fun hd => by have := (h.ix.data b hd).1; omega⟩

def DeedQ (ks : List Key) (tl : List Bool) (x kk : Nat) (w : World) (r : Value) (av : List AnsV) (y : Ending) (w2 : World) : Prop :=
  ∃ (a : AnsV) (M' D' : Nat → Prop), y = .returned (.agg #[.int .i64 0, .bool false, a.R]) ∧ (∃ A n c, a.R = .slice A n c) ∧ IxLoop ks tl x (kk + 1) w w2 r av (av ++ [a]) M' D'

theorem want_all (ks : List Key) (b : Bool) : want ks b = if b then sortK ks else (sortK ks).reverse := rfl

theorem deed_step {rows : List RowV} {nn : Nat} (hks : ks = rows.map RowV.key) (hg : RowsGood rows nn) (hn1 : 1 ≤ nn) (hn2 : nn ≤ 1000) (hl : rows.length ≤ 1000) {N : Int} (hN : (rows.length : Int) ≤ N) (hN1 : N ≤ 1000000) {E : Value} (hE : HasEof wr E)
    (h : IxLoop ks tl x kk w wr r av av M D) (hkk : av.length = kk) {d : DeedV} (hd : (rows.map RowV.deed ++ tl.map (endDeed N))[kk]? = some d) (hA : LAt wr d.A d.us) (w' : World) (hb : Below wr.heap.size wr w') :
    Calls Tryd.prog 27 #[.pointer (some ⟨x, 0, none⟩), .agg #[.string d.op, .slice d.A d.us.length d.c, .int .i64 d.h, .int .i64 d.N]] w' (DeedQ ks tl x kk w r av) := by
  have hu := h.under hb
  have hlk : ks.length = rows.length := by rw [hks]; simp
  rcases Nat.lt_or_ge kk rows.length with hlt | hge
  · rw [List.getElem?_append_left (by simpa using hlt), List.getElem?_map] at hd
    obtain ⟨r0, hr0, rfl⟩ := Option.map_eq_some_iff.1 hd
    have hmem := List.mem_of_getElem? hr0
    have hkey : ks[kk]? = some r0.key := by rw [hks, List.getElem?_map, hr0]; rfl
    have hKO : KeysOk ks nn := by rw [hks]; exact hg.keys
    obtain ⟨g, hp⟩ := hKO.place hkey
    have hmin : min kk ks.length = kk := by omega
    have hx := hu.ix
    rw [hmin] at hx
    have hd := deed_create (nn := nn) (c := r0.c) (N := 0) hx (hA.below hb) (hg.conc r0 hmem) (hd := r0.h) (by have := hg.lo r0 hmem; omega) (hg.hi r0 hmem) (by omega) (by rw [length_sortK]; simp; omega) (hg.len hmem) (fun k hk => (hKO.off hkey k hk).1) (by omega) (by omega) hp
    refine hd.mono ?_
    intro y w2 hP
    have hP' : DeedCreateP x (min kk ks.length + 1) (insK r0.key (sortK (ks.take kk))) M D w' y w2 := by rw [hmin]; exact hP
    obtain ⟨rfl, M', D', hL⟩ := hu.create hkk hkey hP'
    exact ⟨_, M', D', rfl, ⟨_, _, _, rfl⟩, hL⟩
  · rw [List.getElem?_append_right (by simpa using hge), List.getElem?_map] at hd
    obtain ⟨b, hb0, rfl⟩ := Option.map_eq_some_iff.1 hd
    have hb1 : tl[kk - ks.length]? = some b := by rw [hlk]; simpa using hb0
    have hEx := hE.below hb
    have hx := hu.ix
    rw [List.take_of_length_le (by omega)] at hx
    have hNs : ((sortK ks).length : Int) ≤ N := by rw [length_sortK, hlk]; exact hN
    have fin : ∀ y w2, DeedSeekP (want ks b) w' y w2 → DeedQ ks tl x kk w r av y w2 := by
      rintro y w2 ⟨a, rfl, ha, hb2⟩
      obtain ⟨M', D', hL⟩ := hu.seek hkk (by omega) hb1 ha hb2
      obtain ⟨A', c', e⟩ := own_form ha.own
      exact ⟨a, M', D', rfl, ⟨_, _, _, e⟩, hL⟩
    cases b with
    | true => exact (deed_first (ks := sortK ks) (Lib.hid fun w'' hb'' => ix_seek_first (hx.below hb'') (hEx.below hb'') hNs hN1)).mono fin
    | false => exact (deed_last (ks := (sortK ks).reverse) (Lib.hid fun w'' hb'' => ix_seek_last (hx.below hb'') (hEx.below hb'') hNs hN1)).mono fin

end Go.Proofs.YtffgkocokkhahaaDoor

/- impl.Index of a unique index: which rows it takes; what holds between its deeds. -/
namespace Go.Proofs.YtffgkocokkhahaaDoor
open Go.RowKit

/-- A row of one value, NULL. -/
def rowNul (r : RowV) : Bool := match r.us with
  | [x] => isNul x
  | _ => false
def uKey (r : RowV) : Key := if rowNul r then ⟨[], r.h⟩ else ⟨r.us, 0⟩
/-- Whether a row is taken, behind others that were. -/
def accepts (acc : List RowV) (r : RowV) : Bool := rowNul r || !(acc.any fun q => (uKey r).u (uKey q) == 0)
def acceptL (rows : List RowV) : List RowV := rows.foldl (fun acc r => if accepts acc r then acc ++ [r] else acc) []

theorem acceptL_snoc (rows : List RowV) (r : RowV) : acceptL (rows ++ [r]) = if accepts (acceptL rows) r then acceptL rows ++ [r] else acceptL rows := by
  unfold acceptL
  rw [List.foldl_append]
  rfl

theorem acceptL_mem {q : RowV} : ∀ (rows : List RowV), q ∈ acceptL rows → q ∈ rows := by
  have h : ∀ (rows acc : List RowV), q ∈ rows.foldl (fun acc r => if accepts acc r then acc ++ [r] else acc) acc → q ∈ acc ∨ q ∈ rows := by
    intro rows
    induction rows with
    | nil => intro acc h; exact .inl h
    | cons r rows ih =>
      intro acc h
      rw [List.foldl_cons] at h
      rcases ih _ h with h | h
      · split at h
        · rcases List.mem_append.1 h with h | h
          · exact .inl h
          · exact .inr (by simp at h; simp [h])
        · exact .inl h
      · exact .inr (by simp [h])
  intro rows hq
  rcases h rows [] hq with h | h
  · cases h
  · exact h

theorem uKey_few {r : RowV} (h : r.us.length = 1) : Few (uKey r) := by
  unfold uKey Few
  split
  · simp
  · simp [h]

theorem uKey_nul {r : RowV} (h : rowNul r = true) : uKey r = ⟨[], r.h⟩ := by unfold uKey; rw [if_pos h]
theorem uKey_val {r : RowV} (h : rowNul r = false) : uKey r = ⟨r.us, 0⟩ := by unfold uKey; rw [if_neg (by rw [h]; decide)]

/-- A NULL row's key is there alone if its handle is. -/
theorem nul_zero {r q : RowV} (hr : rowNul r = true) (hq : q.us.length = 1) (h : (uKey r).u (uKey q) = 0) : r.h = q.h := by
  rw [uKey_nul hr] at h
  cases hn : rowNul q with
  | true =>
    rw [uKey_nul hn] at h
    unfold Key.u keyC at h
    simp [ucoll] at h
    omega
  | false =>
    rw [uKey_val hn] at h
    match hu : q.us, hq with
    | [y], _ =>
      rw [hu] at h
      simp [Key.u, keyC, ucoll] at h

structure AnsU where
  err : Int
  R : Value
  rs : List RowV
def AnsU.cells (a : AnsU) : List Value := [.int .i64 a.err, .bool false, a.R]
theorem AnsU.three (a : AnsU) : a.cells.length = 3 := rfl
def AnsU.v (a : AnsU) : AnsV := ⟨a.R, a.rs⟩

structure AnswersU (B : Nat) (w : World) (rows : List RowV) (av : List AnsU) : Prop where
  err : ∀ (j : Nat) (a : AnsU) (r : RowV), av[j]? = some a → rows[j]? = some r → a = ⟨if accepts (acceptL (rows.take j)) r then 0 else 2, .slice none 0 0, []⟩
  last : ∀ (a : AnsU), av[rows.length]? = some a → a.err = 0 ∧ ∃ ks ks' : List Key, SrtU ks ∧ (∀ k ∈ ks, ∃ q ∈ rows, k = uKey q) ∧ ks.length = (acceptL rows).length ∧ ks'.map Key.l = ks.map Key.l ∧ AnsRows B w ks' a.v.R a.v.rs

theorem AnswersU.keep {B : Nat} {S D : Nat → Prop} {w w' : World} {rows : List RowV} {bs : List AnsU} (h : AnswersU B w rows bs) (hi : ∀ a ∈ bs, AnsIn D a.v) (hc : Chg S w w') (hn : ∀ k, D k → ¬ S k) : AnswersU B w' rows bs :=
  ⟨h.err, fun a ha => by
    obtain ⟨h1, ks, ks', h2, h3, h4, h5, h6⟩ := h.last a ha
    exact ⟨h1, ks, ks', h2, h3, h4, h5, h6.keep (hi a (List.mem_of_getElem? ha)) hc hn⟩⟩

structure ULoop (rows : List RowV) (x kk : Nat) (w wr : World) (r : Value) (av bs : List AnsU) (M D : Nat → Prop) : Prop where
  own : wr.ownsRow w.heap.size 52 3 r av.length (flat AnsU.cells av)
  ix : ∃ ks, UIx x ks.length ks M D wr ∧ SrtU ks ∧ (∀ k, k ∈ ks ↔ ∃ q ∈ acceptL (rows.take kk), k = uKey q) ∧ ks.length = (acceptL (rows.take kk)).length
  eof : D 0
  ans : AnswersU w.heap.size wr rows bs
  in_ : ∀ a ∈ bs, AnsIn D a.v
  apart : ∀ b, r.ownBlock = some b → ¬ M b ∧ ¬ D b
  new : ∀ b, M b → w.heap.size ≤ b
  below : Below w.heap.size w wr

section
variable {rows : List RowV} {x kk : Nat} {w wr w1 w2 w3 : World} {r : Value} {av bs : List AnsU} {M D : Nat → Prop}

theorem ULoop.under (h : ULoop rows x kk w wr r av bs M D) (hb : Below wr.heap.size wr w1) : ULoop rows x kk w w1 r av bs M D := by
  obtain ⟨ks, h1, h2⟩ := h.ix
  exact ⟨own_below h.own hb, ⟨ks, h1.below hb, h2⟩, h.eof, h.ans.keep h.in_ (Chg.of_below (S := fun _ => False) hb) (fun _ _ h => h), h.in_, h.apart, h.new, up_below' h.below hb⟩

theorem ans_snoc (h : AnswersU w.heap.size w1 rows av) {kk : Nat} (hkk : av.length = kk) {row : RowV} (hrow : rows[kk]? = some row) {a : AnsU} (ha : a = ⟨if accepts (acceptL (rows.take kk)) row then 0 else 2, .slice none 0 0, []⟩) : AnswersU w.heap.size w1 rows (av ++ [a]) := by
  have hlt := (List.getElem?_eq_some_iff.1 hrow).1
  refine ⟨fun j b q hb hq => ?_, fun b hb => ?_⟩
  · rcases Nat.lt_or_ge j av.length with h1 | h1
    · rw [List.getElem?_append_left h1] at hb
      exact h.err j b q hb hq
    · rw [List.getElem?_append_right h1] at hb
      cases hj0 : j - av.length with
      | zero =>
        rw [hj0] at hb
        obtain rfl := Option.some.inj hb
        obtain rfl : j = kk := by omega
        obtain rfl := Option.some.inj (hq.symm.trans hrow)
        exact ha
      | succ i =>
        rw [hj0] at hb
        cases hb
  · have := (List.getElem?_eq_some_iff.1 hb).1
    simp at this
    omega

theorem in_snoc {a : AnsU} (h : ∀ a ∈ av, AnsIn D a.v) (ha : a.R = .slice none 0 0 ∧ a.rs = []) : ∀ b ∈ av ++ [a], AnsIn D b.v := by
  intro b hb
  rcases List.mem_append.1 hb with h1 | h1
  · exact h b h1
  · obtain rfl := List.mem_singleton.1 h1
    refine ⟨fun k hk => ?_, fun r hr => ?_⟩
    · have : b.v.R = .slice none 0 0 := ha.1
      rw [this] at hk
      cases hk
    · have : b.v.rs = [] := ha.2
      rw [this] at hr
      cases hr

/-- A row that is taken. -/
theorem ULoop.create (h : ULoop rows x kk w wr r av av M D) (hkk : av.length = kk) {row : RowV} (hrow : rows[kk]? = some row) (hacc : accepts (acceptL (rows.take kk)) row = true) {ks : List Key} {g : Nat}
    (hks : ∀ k, k ∈ ks ↔ ∃ q ∈ acceptL (rows.take kk), k = uKey q) (hlen : ks.length = (acceptL (rows.take kk)).length) (hs : SrtU ks) (hp : Pos (signU (uKey row) ks) ks.length g false)
    {y : Ending} (hd : DeedCreateU x (ks.length + 1) (ks.take g ++ uKey row :: ks.drop g) M D wr y w2) :
    y = .returned (.agg #[.int .i64 0, .bool false, .slice none 0 0]) ∧ ∃ M' D', ULoop rows x (kk + 1) w w2 r av (av ++ [⟨0, .slice none 0 0, []⟩]) M' D' := by
  obtain ⟨rfl, M', D', hx, hc, hD, hM', hD'⟩ := hd
  have hsz := h.below.size
  have hgl := hp.le
  have hlk : (ks.take g ++ uKey row :: ks.drop g).length = ks.length + 1 := by rw [List.length_append, List.length_take, List.length_cons, List.length_drop]; omega
  refine ⟨rfl, M', D', own_chg h.own hc (fun b hb => (h.apart b hb).1), ⟨ks.take g ++ uKey row :: ks.drop g, by rw [hlk]; exact hx, srt_put hs hp, fun k => ?_, ?_⟩, hD _ h.eof, ans_snoc (h.ans.keep h.in_ hc (fun k hk => ?_)) hkk hrow (by rw [hacc]; rfl), in_snoc (fun a ha => (h.in_ a ha).mono hD) ⟨rfl, rfl⟩, fun b hb => ?_, fun b hb => ?_, h.below.trans (hc.below hsz h.new)⟩
  · rw [take_snoc hrow, acceptL_snoc, hacc, if_pos rfl]
    rw [show k ∈ ks.take g ++ uKey row :: ks.drop g ↔ k = uKey row ∨ k ∈ ks by
      rw [List.mem_append, List.mem_cons]
      constructor
      · rintro (h1 | h1 | h1)
        · exact .inr (List.mem_of_mem_take h1)
        · exact .inl h1
        · exact .inr (List.mem_of_mem_drop h1)
      · rintro (h1 | h1)
        · exact .inr (.inl h1)
        · rw [← List.take_append_drop g ks, List.mem_append] at h1
          rcases h1 with h1 | h1
          · exact .inl h1
          · exact .inr (.inr h1)]
    rw [hks]
    constructor
    · rintro (h1 | ⟨q, hq, h1⟩)
      · exact ⟨row, by simp, h1⟩
      · exact ⟨q, by simp [hq], h1⟩
    · rintro ⟨q, hq, h1⟩
      rcases List.mem_append.1 hq with hq | hq
      · exact .inr ⟨q, hq, h1⟩
      · obtain rfl := List.mem_singleton.1 hq
        exact .inl h1
  · rw [hlk, take_snoc hrow, acceptL_snoc, hacc, if_pos rfl, hlen]
    simp
  · intro hM
    obtain ⟨_, h1, _⟩ := h.ix
    exact (h1.data k hk).2 hM
  · have hlt := own_lt h.own hb
    exact ⟨fun hm => (hM' b hm).elim (h.apart b hb).1 (by omega), fun hd => (hD' b hd).elim (h.apart b hb).2 (by omega)⟩
  · exact (hM' b hb).elim (h.new b) (fun h1 => by omega)

/-- A row that is refused. -/
theorem ULoop.refuse (h : ULoop rows x kk w wr r av av M D) (hkk : av.length = kk) {row : RowV} (hrow : rows[kk]? = some row) (hacc : accepts (acceptL (rows.take kk)) row = false) (hb : Below wr.heap.size wr w2) :
    ULoop rows x (kk + 1) w w2 r av (av ++ [⟨2, .slice none 0 0, []⟩]) M D := by
  have hu := h.under hb
  refine ⟨hu.own, ?_, hu.eof, ans_snoc hu.ans hkk hrow (by rw [hacc]; rfl), in_snoc hu.in_ ⟨rfl, rfl⟩, hu.apart, hu.new, hu.below⟩
  rw [take_snoc hrow, acceptL_snoc, hacc, if_neg (by decide)]
  exact hu.ix

theorem ULoop.seek (h : ULoop rows x kk w wr r av av M D) (hkk : av.length = kk) (hm : kk = rows.length) {ks ks' : List Key} (hs : SrtU ks) (hks : ∀ k, k ∈ ks ↔ ∃ q ∈ acceptL (rows.take kk), k = uKey q) (hlen : ks.length = (acceptL (rows.take kk)).length) (hl : ks'.map Key.l = ks.map Key.l)
    {a : AnsV} (ha : AnsRows wr.heap.size w2 ks' a.R a.rs) (hb2 : Below wr.heap.size wr w2) :
    ∃ M' D', ULoop rows x (kk + 1) w w2 r av (av ++ [⟨0, a.R, a.rs⟩]) M' D' := by
  have hsz := h.below.size
  have hs2 := hb2.size
  have hu := h.under hb2
  obtain ⟨ks0, hx, hr0⟩ := hu.ix
  have htk : rows.take kk = rows := List.take_of_length_le (by omega)
  have htk1 : rows.take (kk + 1) = rows := List.take_of_length_le (by omega)
  refine ⟨M, fun k => D k ∨ (wr.heap.size ≤ k ∧ k < w2.heap.size), hu.own, ⟨ks0, hx.more (fun k hk => .inl hk) (fun k hk => hk.elim (hx.data k) (fun hk => ⟨hk.2, fun hM => ?_⟩)), by rw [htk1]; rw [htk] at hr0; exact hr0⟩, .inl h.eof, ⟨fun j a' q ha' hq => ?_, fun a' ha' => ?_⟩, fun a' ha' => ?_, fun k hk => ?_, h.new, hu.below⟩
  · obtain ⟨ks1, hx1, _⟩ := h.ix
    have := hx1.lt hM
    omega
  · have hj := (List.getElem?_eq_some_iff.1 hq).1
    rw [List.getElem?_append_left (by omega)] at ha'
    exact hu.ans.err j a' q ha' hq
  · rw [List.getElem?_append_right (by omega), show rows.length - av.length = 0 by omega] at ha'
    obtain rfl := Option.some.inj ha'
    rw [htk] at hks hlen
    refine ⟨rfl, ks, ks', hs, fun k hk => ?_, hlen, hl, ha.mono hsz⟩
    obtain ⟨q, hq, e⟩ := (hks k).1 hk
    exact ⟨q, acceptL_mem rows hq, e⟩
  · rcases List.mem_append.1 ha' with h1 | h1
    · exact (h.in_ a' h1).mono (fun k hk => .inl hk)
    · obtain rfl := List.mem_singleton.1 h1
      exact AnsIn.mono (AnsRows.in_ (a := a) ha) (fun k hk => .inr hk)
  · have hlt := own_lt h.own hk
    exact ⟨(h.apart k hk).1, fun hd => hd.elim (h.apart k hk).2 (by omega)⟩

theorem ULoop.append {a : AnsU} (h : ULoop rows x kk w w2 r av (av ++ [a]) M D) {o : Obj} {v : Value} {n : Nat} (hn : n = av.length + 1) (hown : w3.ownsRow w.heap.size 52 3 v n (flat AnsU.cells av ++ a.cells)) (hg : (w2.alloc o).grownBy w3 r.ownBlock)
    (hat : v.ownBlock = r.ownBlock ∨ v.ownBlock = some (w2.alloc o).heap.size) : ULoop rows x kk w w3 v (av ++ [a]) (av ++ [a]) M D := by
  subst hn
  have hc : Chg (fun k => r.ownBlock = some k) w2 w3 := ((Chg.refl _ w2).alloc o).next (Chg.of_grown hg) (fun z _ h => h.symm)
  have hz : (w2.alloc o).heap.size = w2.heap.size + 1 := by simp
  obtain ⟨ks, hx, hrest⟩ := h.ix
  refine ⟨?_, ⟨ks, hx.chg hc (fun k hk e => (h.apart k e).1 hk) (fun k hk e => (h.apart k e).2 hk), hrest⟩, h.eof, h.ans.keep h.in_ hc (fun k hk e => (h.apart k e).2 hk), h.in_, fun b hb => ?_, h.new, h.below.trans (hc.below h.below.size (fun k hk => own_ge h.own hk))⟩
  · rw [flat_append, List.length_append]
    simpa [flat] using hown
  · rcases hat with h1 | h1
    · exact h.apart b (h1 ▸ hb)
    · rw [hb] at h1
      have h2 := Option.some.inj h1
      exact ⟨fun hm => by have := hx.lt hm; omega, fun hd => by have := (hx.data b hd).1; omega⟩
end

end Go.Proofs.YtffgkocokkhahaaDoor

/- impl.Index of an index that is not unique: rows that are created, then what is found from its ends. -/
namespace Go.Proofs.YtffgkocokkhahaaDoor
open Go.RowKit

theorem info_ians : (Tryd.prog.info? 52).map (fun i => (i.zero, i.size, i.bytes)) = some (some (.agg #[.int .i64 0, .bool false, .slice none 0 0]), 3, 40) := by kernel_rfl

theorem reads_ans (w : World) (R : Value) (t : TypeId) : Reads (w.alloc (.cells #[.int .i64 0, .bool false, R] t)) (w.heap.size + 1) 3 (some ⟨w.heap.size, 0, none⟩) 1 [.int .i64 0, .bool false, R] :=
  ⟨rfl, fun _ => ⟨_, rfl, Nat.lt_succ_self _, fun j u hu => World.news_of_block (heap_new w _) j u hu⟩⟩

theorem heap_apart {w : World} {a b : Nat} {c d : Array Value} {t u : TypeId} {f g : Nat × Nat} (h1 : w.heap[a]? = some (.cells c t f)) (h2 : w.heap[b]? = some (.cells d u g)) (hne : t ≠ u) : a ≠ b := by
  rintro rfl
  rw [h1] at h2
  injection h2 with h2
  injection h2 with _ ht
  exact hne ht

theorem ix_start {ks : List Key} {tl : List Bool} {w w1 : World} {x m t r : Nat} {E : Value} (hE : HasEof w E) (hx : IdxW w1 x m t false) (ht : TreeAt w1 t [] (fun b => b = t)) (hs : StoreAt w1 m 0 r (.slice none 0 0)) (lx : w.heap.size ≤ x) (lm : w.heap.size ≤ m) (lt : w.heap.size ≤ t) (lr : w.heap.size ≤ r) (hb : Below w.heap.size w w1) :
    ∃ M D, IxLoop ks tl x 0 w w1 (.slice none 0 0) [] [] M D := by
  obtain ⟨ver, hT, _⟩ := tree_empty ht
  obtain ⟨cs, hm, _⟩ := hs.mem
  obtain ⟨p, s, hr⟩ := hs.roll
  have hX : w1.heap[x]? = _ := hx
  have hT' : w1.heap[t]? = _ := hT
  have tx : t ≠ x := heap_apart hT' hX (by decide)
  have tm : t ≠ m := heap_apart hT' hm (by decide)
  have tr : t ≠ r := heap_apart hT' hr (by decide)
  have rx : r ≠ x := heap_apart hr hX (by decide)
  have rm : r ≠ m := heap_apart hr hm (by decide)
  have hE1 := hE.lt
  have hsz := hb.size
  have h0 : (Value.slice none 0 0).ownBlock = none := rfl
  refine ⟨Mut (fun b => b = t) r (.slice none 0 0), fun k => k = x ∨ k = m ∨ k = 0, World.ownsRow_nil _ _ _ _, ⟨⟨m, t, r, _, _, [], ⟨hx, ht, hs, ?_⟩, fun _ => Iff.rfl, by simp [sortK], fun e he => (by cases he), .inr (.inl rfl)⟩, .inl rfl, fun k hk => ⟨?_, ?_⟩⟩, .inr (.inr rfl), ⟨fun j a _ h => (by simp at h), fun j b a _ h => (by simp at h)⟩, fun a ha => (by cases ha), fun b hb => (by rw [h0] at hb; cases hb), ?_, hb⟩
  · rintro k rfl
    exact ⟨tx, tm, tr, by rw [h0]; exact fun h => by cases h⟩
  · rcases hk with rfl | rfl | rfl
    · exact lt_of_heap hX
    · exact lt_of_heap hm
    · omega
  · rintro (h | h | h)
    · rcases hk with e | e | e <;> omega
    · rcases hk with e | e | e <;> omega
    · rw [h0] at h; cases h
  · rintro b (h | h | h)
    · omega
    · omega
    · rw [h0] at h; cases h

def IndexP (ks : List Key) (tl : List Bool) (w : World) (y : Ending) (w' : World) : Prop :=
  ∃ A c av, y = .returned (.slice A (ks.length + tl.length) c) ∧ w'.ownsRow w.heap.size 52 3 (.slice A (ks.length + tl.length) c) (ks.length + tl.length) (flat AnsV.cells av) ∧ av.length = ks.length + tl.length ∧ Answers w.heap.size w' ks tl av ∧ Below w.heap.size w w'

set_option maxRecDepth 100000 in
set_option maxHeartbeats 3200000 in
theorem index_any {rows : List RowV} {ks : List Key} {nn : Nat} {tl : List Bool} {A : Option Addr} {c : Nat} {w : World} (hks : ks = rows.map RowV.key) (hg : RowsGood rows nn) (hn1 : 1 ≤ nn) (hn2 : nn ≤ 1000) (hl : rows.length ≤ 1000) (htl : tl.length ≤ 10) {N : Int} (hN : (rows.length : Int) ≤ N) (hN1 : N ≤ 1000000) {E : Value} (hE : HasEof w E)
    (hd : DeedsAt w A (rows.map RowV.deed ++ tl.map (endDeed N))) :
    Calls Tryd.prog 14 #[.bool false, .slice A (ks.length + tl.length) c] w (IndexP ks tl w) := by
  obtain ⟨i0, hi, hz0, hz1, hz2⟩ := info_parts info_ians
  unfold IndexP
  obtain ⟨len, hlen⟩ : ∃ len, len = ks.length + tl.length := ⟨_, rfl⟩
  have hlen2 : len = (rows.map RowV.deed ++ tl.map (endDeed N)).length := by rw [hlen, hks]; simp
  have hlen3 : len ≤ 1010 := by rw [hlen2]; simp; omega
  have HS := Lib.hid (fun (x k : Nat) (wr : World) (r : Value) (av : List AnsV) (M D : Nat → Prop) (h : IxLoop ks tl x k w wr r av av M D) (hk : av.length = k) (d : DeedV) (hdk : (rows.map RowV.deed ++ tl.map (endDeed N))[k]? = some d) (w' : World) (hb : Below wr.heap.size wr w') =>
    deed_step hks hg hn1 hn2 hl hN hN1 (hE.below h.below) h hk hdk ((hd.below h.below) k d hdk).2 w' hb)
  have HD := Lib.hid hd
  have HE := Lib.hid hE
  have HN := Lib.hid hlen2
  rw [← hlen]
  clear hd hE hlen2 hks hg hn1 hn2 hl hN hN1 hlen
  go_enter Tryd.func14, Tryd.ntmps14
  go_wp2_with (go_at_call 26
               refine (newIndex_any false _).mono ?_
               rintro y w1 ⟨x, m, t, r, rfl, hx, ht, hs, lx, lm, lt, lr, hb⟩
               have HL0 := Lib.hid (ix_start (ks := ks) (tl := tl) HE.out hx ht hs lx lm lt lr hb)
               clear hx ht hs hb)
  go_loopw [7, 19] (fun rv i wr => ∃ (k : Nat) (av : List AnsV) (M D : Nat → Prop), k ≤ len ∧ i = .int .i64 k ∧ av.length = k ∧ IxLoop ks tl x k w wr rv av av M D) (fun _ i _ => len - (intOf i).toNat)
  case atStart =>
    obtain ⟨M, D, h⟩ := HL0.out
    exact ⟨0, [], M, D, by omega, rfl, rfl, h⟩
  case round =>
    obtain ⟨k, av, M, D, hk, rfl, hka, hL⟩ := hrel
    by_cases hlt : k < len
    · obtain ⟨d, hdk⟩ : ∃ d, (rows.map RowV.deed ++ tl.map (endDeed N))[k]? = some d := ⟨_, List.getElem?_eq_getElem (by rw [← HN.out]; exact hlt)⟩
      obtain ⟨⟨ad, rfl, hbl, h0, h1, h2, h3⟩, _⟩ := (HD.out.below hL.below) k d hdk
      have HC := Lib.hid (HS.out x k _ _ av M D hL hka d hdk)
      have HKA := Lib.hid hka
      clear hL hdk hka
      go_wp2_with (first
        | (go_at_call 27
           refine (HC.out _ (by repeat (first | exact Below.refl _ _ | refine Below.setCell ?_ (Nat.le_refl _) _ | refine Below.alloc ?_ (Nat.le_refl _) _))).mono ?_
           rintro y w2 ⟨⟨R, rs⟩, M', D', rfl, ⟨A2, n2, c2, hR⟩, hL⟩
           simp only at hR
           subst hR
           have HL := Lib.hid hL
           have HO := Lib.hid hL.own
           have hs2 := hL.below.size
           rw [HKA.out] at HO
           clear hL)
        | (at_builtin
           refine wpList_append_any _ rfl (.tmp 23) (.tmp 27) _ rfl w.heap.size 52 i0 _ 3 40 Tryd.underlying44 hi hz0 hz1 hz2 rfl (by omega) _ k (flat AnsV.cells av) rfl
             (HO.out.alloc _) (w2.heap.size + 1) (some ⟨w2.heap.size, 0, none⟩) 1 1 [.int .i64 0, .bool false, .slice A2 n2 c2] rfl (reads_ans _ _ _) (fun u hu => by simp at hu; rcases hu with rfl | rfl | rfl <;> rfl) (by simp only [maxLen]; omega) (by omega) (by simp; omega) ?_
           intro v3 w3 hown3 hg3 hat3
           have HO3 := Lib.hid hown3; have HG3 := Lib.hid hg3; have HA3 := Lib.hid hat3; clear hown3 hg3 hat3))
      exact ⟨⟨k + 1, av ++ [⟨.slice A2 n2 c2, rs⟩], M', D', by omega, by push_cast; rfl, by simp [HKA.out], HL.out.append (by rw [HKA.out]) HO3.out HG3.out HA3.out⟩, by simp [intOf]; omega⟩
    · have hke : k = len := by omega
      subst hke
      have hO := hL.own
      rw [hka] at hO
      obtain ⟨A', c', rfl⟩ := own_form hO
      have HO := Lib.hid hO
      have HL := Lib.hid hL
      clear hO hL
      go_wp2
      go_ret
      exact ⟨A', c', av, rfl, HO.out, hka, HL.out.ans, HL.out.below⟩

end Go.Proofs.YtffgkocokkhahaaDoor

/- impl.Index of a unique index: rows that are created, then what is found from its first entry on. -/
namespace Go.Proofs.YtffgkocokkhahaaDoor
open Go.RowKit

def DeedQU (rows : List RowV) (x kk : Nat) (w : World) (r : Value) (av : List AnsU) (y : Ending) (w2 : World) : Prop :=
  ∃ (a : AnsU) (M' D' : Nat → Prop), y = .returned (.agg #[.int .i64 a.err, .bool false, a.R]) ∧ (∃ A n c, a.R = .slice A n c) ∧ ULoop rows x (kk + 1) w w2 r av (av ++ [a]) M' D'

theorem insD_one {D : Nat → Prop} {w : World} {u : VV} {A : Option Addr} {vs : List Value} (hI : InsD D w [u] A vs) (hu : u.conc = true) : ∃ ad v, A = some ad ∧ vs = [v] ∧ (isNul u = true → v = .nilIface) ∧ (isNul u = false → ∃ t x, v = .iface t x) := by
  obtain ⟨ad, hA, _, _⟩ := hI.reads.2 (by simp)
  have hl := hI.rep.1
  match vs, hl with
  | [v], _ =>
    obtain ⟨y, hy, hr⟩ := hI.rep.2 0 u v rfl rfl
    have h := rep_nul hu hy hr
    exact ⟨ad, v, hA, rfl, h.1, h.2⟩

theorem deed_step_u {rows : List RowV} {x kk : Nat} {w wr : World} {r : Value} {av : List AnsU} {M D : Nat → Prop} (hg : RowsGood rows 1) (hl : rows.length ≤ 1000) {N : Int} (hN : (rows.length : Int) ≤ N) (hN1 : N ≤ 1000000) {E : Value} (hE : HasEof wr E)
    (h : ULoop rows x kk w wr r av av M D) (hkk : av.length = kk) {d : DeedV} (hd : (rows.map RowV.deed ++ [true].map (endDeed N))[kk]? = some d) (hA : LAt wr d.A d.us) (w' : World) (hb : Below wr.heap.size wr w') :
    Calls Tryd.prog 27 #[.pointer (some ⟨x, 0, none⟩), .agg #[.string d.op, .slice d.A d.us.length d.c, .int .i64 d.h, .int .i64 d.N]] w' (DeedQU rows x kk w r av) := by
  have hu := h.under hb
  obtain ⟨ks, hx, hs, hks, hlen⟩ := hu.ix
  have hacl : ∀ l : List RowV, (acceptL l).length ≤ l.length := by
    intro l
    have : ∀ (l acc : List RowV), (l.foldl (fun acc r => if accepts acc r then acc ++ [r] else acc) acc).length ≤ acc.length + l.length := by
      intro l
      induction l with
      | nil => intro acc; simp
      | cons a l ih =>
        intro acc
        rw [List.foldl_cons]
        have h1 := ih (if accepts acc a then acc ++ [a] else acc)
        have h2 : (if accepts acc a then acc ++ [a] else acc).length ≤ acc.length + 1 := by split <;> simp
        rw [List.length_cons]
        omega
    have h1 := this l []
    simpa [acceptL] using h1
  have hkl : ks.length ≤ 1000 := by
    have h1 := hacl (rows.take kk)
    rw [List.length_take] at h1
    omega
  rcases Nat.lt_or_ge kk rows.length with hlt | hge
  · rw [List.getElem?_append_left (by simpa using hlt), List.getElem?_map] at hd
    obtain ⟨row, hr0, rfl⟩ := Option.map_eq_some_iff.1 hd
    have hmem := List.mem_of_getElem? hr0
    have hus := hg.len hmem
    have hcn := hg.conc row hmem
    have hlo : 1 ≤ row.h := hg.lo row hmem
    have hhi := hg.hi row hmem
    have hfew : ∀ k ∈ ks, Few k := fun k hk => by
      obtain ⟨q, hq, rfl⟩ := (hks k).1 hk
      exact uKey_few (hg.len (List.mem_of_mem_take (acceptL_mem _ hq)))
    obtain ⟨g, ok, hp⟩ := place_u (uKey_few hus) hs hfew
    have hzero : ok = true → ∃ q ∈ acceptL (rows.take kk), (uKey row).u (uKey q) = 0 := fun hok => by
      have h1 := hp.hit hok
      rw [signU_at (List.getElem?_eq_getElem h1.1)] at h1
      obtain ⟨q, hq, e⟩ := (hks _).1 (List.getElem_mem h1.1)
      exact ⟨q, hq, by rw [← e]; exact h1.2⟩
    have hnz : ok = false → ∀ q ∈ acceptL (rows.take kk), (uKey row).u (uKey q) ≠ 0 := fun hok q hq => by
      obtain ⟨j, hj, e⟩ := List.getElem_of_mem ((hks (uKey q)).2 ⟨q, hq, rfl⟩)
      have h1 := signU_at (r := uKey row) (List.getElem?_eq_getElem hj)
      rw [e] at h1
      rw [← h1]
      rcases Nat.lt_trichotomy j g with h2 | h2 | h2
      · have := hp.ahead j h2; omega
      · subst h2; have := hp.miss hok hj; omega
      · have := hp.behind j h2 hj; omega
    obtain ⟨rA, rc, rh, rus⟩ := row
    obtain ⟨u, rfl⟩ : ∃ u, rus = [u] := by
      match rus, hus with
      | [u], _ => exact ⟨u, rfl⟩
    have huc := (hcn 0 u rfl).1
    have hlA : LAt w' rA [u] := hA.below hb
    have hsx : ks.length ≤ 100000 := by omega
    cases hn : isNul u with
    | true =>
      have hrn : rowNul ⟨rA, rc, rh, [u]⟩ = true := hn
      have hkey : uKey ⟨rA, rc, rh, [u]⟩ = ⟨[], rh⟩ := uKey_nul hrn
      have hacc : accepts (acceptL (rows.take kk)) ⟨rA, rc, rh, [u]⟩ = true := by unfold accepts; rw [hrn]; rfl
      have hok : ok = false := by
        cases ok with
        | false => rfl
        | true =>
          exfalso
          obtain ⟨q, hq, hz⟩ := hzero rfl
          obtain ⟨i, hi, hqi⟩ := mem_take_at (acceptL_mem _ hq)
          have h1 := nul_zero hrn (hg.len (List.mem_of_getElem? hqi)) hz
          exact hg.keys.ne i kk q.key (RowV.key ⟨rA, rc, rh, [u]⟩) hi (by rw [List.getElem?_map, hqi]; rfl) (by rw [List.getElem?_map, hr0]; rfl) h1.symm
      subst hok
      have hd := deed_create_u (ks' := ks.take g ++ uKey ⟨rA, rc, rh, [u]⟩ :: ks.drop g) (c := rc) (hd := rh) (N := 0) hx hlA hcn (by simp) (by simp) (Lib.hid fun D' w'' A' c' vs hix hI => by
        obtain ⟨ad, v, rfl, rfl, h1, _⟩ := insD_one hI huc
        have hr := hI.reads
        rw [h1 hn] at hr
        rw [hkey] at hp ⊢
        exact uix_null hix (by have : (1 : Int) ≤ rh := hlo; omega) hhi hsx (by omega) hr hp)
      refine hd.mono ?_
      intro y w2 hP
      obtain ⟨rfl, M', D', hL⟩ := hu.create hkk hr0 hacc hks hlen hs hp hP
      exact ⟨_, M', D', rfl, ⟨_, _, _, rfl⟩, hL⟩
    | false =>
      have hrn : rowNul ⟨rA, rc, rh, [u]⟩ = false := hn
      have hkey : uKey ⟨rA, rc, rh, [u]⟩ = ⟨[u], 0⟩ := uKey_val hrn
      cases ok with
      | true =>
        have hacc : accepts (acceptL (rows.take kk)) ⟨rA, rc, rh, [u]⟩ = false := by
          obtain ⟨q, hq, hz⟩ := hzero rfl
          unfold accepts
          rw [hrn, Bool.false_or, Bool.not_eq_false', List.any_eq_true]
          exact ⟨q, hq, by rw [hz]; rfl⟩
        have hd := deed_dup_u (c := rc) (hd := rh) (N := 0) hx hlA hcn (by simp) (by simp) (Lib.hid fun D' w'' A' c' vs hix hI => by
          obtain ⟨ad, v, rfl, rfl, _, h1⟩ := insD_one hI huc
          obtain ⟨t, z, rfl⟩ := h1 hn
          rw [hkey] at hp
          exact uix_dup hix hI hcn hn (by omega) (Lib.hid (null_no (some ad) c' w'' t z hI.reads)) hp)
        refine hd.mono ?_
        rintro y w2 ⟨rfl, hb2⟩
        exact ⟨⟨2, .slice none 0 0, []⟩, M, D, rfl, ⟨_, _, _, rfl⟩, hu.refuse hkk hr0 hacc hb2⟩
      | false =>
        have hacc : accepts (acceptL (rows.take kk)) ⟨rA, rc, rh, [u]⟩ = true := by
          unfold accepts
          rw [hrn, Bool.false_or, Bool.not_eq_true', List.any_eq_false]
          intro q hq
          simpa using hnz rfl q hq
        have hd := deed_create_u (ks' := ks.take g ++ uKey ⟨rA, rc, rh, [u]⟩ :: ks.drop g) (c := rc) (hd := rh) (N := 0) hx hlA hcn (by simp) (by simp) (Lib.hid fun D' w'' A' c' vs hix hI => by
          obtain ⟨ad, v, rfl, rfl, _, h1⟩ := insD_one hI huc
          obtain ⟨t, z, rfl⟩ := h1 hn
          rw [hkey] at hp ⊢
          exact uix_new hix hI hcn hn hsx (by omega) (Lib.hid (null_no (some ad) c' w'' t z hI.reads)) hp)
        refine hd.mono ?_
        intro y w2 hP
        obtain ⟨rfl, M', D', hL⟩ := hu.create hkk hr0 hacc hks hlen hs hp hP
        exact ⟨_, M', D', rfl, ⟨_, _, _, rfl⟩, hL⟩
  · rw [List.getElem?_append_right (by simpa using hge), List.getElem?_map] at hd
    obtain ⟨b, hb0, rfl⟩ := Option.map_eq_some_iff.1 hd
    have hk0 : kk = rows.length ∧ b = true := by
      have h1 := (List.getElem?_eq_some_iff.1 hb0).1
      simp at h1
      have h2 : kk = rows.length := by omega
      subst h2
      simp at hb0
      exact ⟨rfl, hb0⟩
    obtain ⟨hk1, rfl⟩ := hk0
    obtain ⟨ks', hl', hsk⟩ := uix_seek_first hx (hE.below hb) (N := N) (by
      have h1 := hacl (rows.take kk)
      rw [List.length_take] at h1
      omega) hN1
    refine (deed_first (ks := ks') (Lib.hid fun w'' hb'' => hsk w'' hb'')).mono ?_
    rintro y w2 ⟨a, rfl, ha, hb2⟩
    obtain ⟨M', D', hL⟩ := hu.seek hkk hk1 hs hks hlen hl' ha hb2
    obtain ⟨A', c', e⟩ := own_form ha.own
    exact ⟨⟨0, a.R, a.rs⟩, M', D', rfl, ⟨_, _, _, e⟩, hL⟩

end Go.Proofs.YtffgkocokkhahaaDoor

/- impl.Index of a unique index, walked. PRINTED from Xij's walk (wip/tpl/XXij.lean.tpl). -/
namespace Go.Proofs.YtffgkocokkhahaaDoor
open Go.RowKit

theorem reads_ansU (w : World) (er : Int) (R : Value) (t : TypeId) : Reads (w.alloc (.cells #[.int .i64 er, .bool false, R] t)) (w.heap.size + 1) 3 (some ⟨w.heap.size, 0, none⟩) 1 [.int .i64 er, .bool false, R] :=
  ⟨rfl, fun _ => ⟨_, rfl, Nat.lt_succ_self _, fun j u hu => World.news_of_block (heap_new w _) j u hu⟩⟩

def IndexPU (rows : List RowV) (w : World) (y : Ending) (w' : World) : Prop :=
  ∃ A c av, y = .returned (.slice A (rows.length + 1) c) ∧ w'.ownsRow w.heap.size 52 3 (.slice A (rows.length + 1) c) (rows.length + 1) (flat AnsU.cells av) ∧ av.length = rows.length + 1 ∧ AnswersU w.heap.size w' rows av ∧ Below w.heap.size w w'

theorem ix_start_u {rows : List RowV} {w w1 : World} {x m t r : Nat} {E : Value} (hE : HasEof w E) (hx : IdxW w1 x m t true) (ht : TreeAt w1 t [] (fun b => b = t)) (hs : StoreAt w1 m 0 r (.slice none 0 0)) (lx : w.heap.size ≤ x) (lm : w.heap.size ≤ m) (lt : w.heap.size ≤ t) (lr : w.heap.size ≤ r) (hb : Below w.heap.size w w1) :
    ∃ M D, ULoop rows x 0 w w1 (.slice none 0 0) [] [] M D := by
  obtain ⟨ver, hT, _⟩ := tree_empty ht
  obtain ⟨cs, hm, _⟩ := hs.mem
  obtain ⟨p, s, hr⟩ := hs.roll
  have hX : w1.heap[x]? = _ := hx
  have hT' : w1.heap[t]? = _ := hT
  have tx : t ≠ x := heap_apart hT' hX (by decide)
  have tm : t ≠ m := heap_apart hT' hm (by decide)
  have tr : t ≠ r := heap_apart hT' hr (by decide)
  have rx : r ≠ x := heap_apart hr hX (by decide)
  have rm : r ≠ m := heap_apart hr hm (by decide)
  have hE1 := hE.lt
  have hsz := hb.size
  have h0 : (Value.slice none 0 0).ownBlock = none := rfl
  refine ⟨Mut (fun b => b = t) r (.slice none 0 0), fun k => k = x ∨ k = m ∨ k = 0, World.ownsRow_nil _ _ _ _, ⟨[], ⟨⟨m, t, r, _, _, [], ⟨hx, ht, hs, ?_⟩, fun _ => Iff.rfl, rfl, fun e he => (by cases he), .inr (.inl rfl)⟩, .inl rfl, fun k hk => ⟨?_, ?_⟩⟩, List.Pairwise.nil, fun k => ⟨fun h => (by cases h), fun h => (by obtain ⟨q, hq, _⟩ := h; simp [acceptL] at hq)⟩, by simp [acceptL]⟩, .inr (.inr rfl), ⟨fun j a r h _ => (by simp at h), fun a h => (by simp at h)⟩, fun a ha => (by cases ha), fun b hb => (by rw [h0] at hb; cases hb), ?_, hb⟩
  · rintro k rfl
    exact ⟨tx, tm, tr, by rw [h0]; exact fun h => by cases h⟩
  · rcases hk with rfl | rfl | rfl
    · exact lt_of_heap hX
    · exact lt_of_heap hm
    · omega
  · rintro (h | h | h)
    · rcases hk with e | e | e <;> omega
    · rcases hk with e | e | e <;> omega
    · rw [h0] at h; cases h
  · rintro b (h | h | h)
    · omega
    · omega
    · rw [h0] at h; cases h


set_option maxRecDepth 100000 in
set_option maxHeartbeats 3200000 in
theorem index_any_u {rows : List RowV} {A : Option Addr} {c : Nat} {w : World} (hg : RowsGood rows 1) (hl : rows.length ≤ 1000) {N : Int} (hN : (rows.length : Int) ≤ N) (hN1 : N ≤ 1000000) {E : Value} (hE : HasEof w E)
    (hd : DeedsAt w A (rows.map RowV.deed ++ [true].map (endDeed N))) :
    Calls Tryd.prog 14 #[.bool true, .slice A (rows.length + 1) c] w (IndexPU rows w) := by
  obtain ⟨i0, hi, hz0, hz1, hz2⟩ := info_parts info_ians
  unfold IndexPU
  obtain ⟨len, hlen⟩ : ∃ len, len = rows.length + 1 := ⟨_, rfl⟩
  have hlen2 : len = (rows.map RowV.deed ++ [true].map (endDeed N)).length := by rw [hlen]; simp
  have hlen3 : len ≤ 1010 := by rw [hlen2]; simp; omega
  have HS := Lib.hid (fun (x k : Nat) (wr : World) (r : Value) (av : List AnsU) (M D : Nat → Prop) (h : ULoop rows x k w wr r av av M D) (hk : av.length = k) (d : DeedV) (hdk : (rows.map RowV.deed ++ [true].map (endDeed N))[k]? = some d) (w' : World) (hb : Below wr.heap.size wr w') =>
    deed_step_u hg hl hN hN1 (hE.below h.below) h hk hdk ((hd.below h.below) k d hdk).2 w' hb)
  have HD := Lib.hid hd
  have HE := Lib.hid hE
  have HN := Lib.hid hlen2
  rw [← hlen]
  clear hd hE hlen2 hg hl hN hN1 hlen
  go_enter Tryd.func14, Tryd.ntmps14
  go_wp2_with (go_at_call 26
               refine (newIndex_any true _).mono ?_
               rintro y w1 ⟨x, m, t, r, rfl, hx, ht, hs, lx, lm, lt, lr, hb⟩
               have HL0 := Lib.hid (ix_start_u (rows := rows) HE.out hx ht hs lx lm lt lr hb)
               clear hx ht hs hb)
  go_loopw [7, 19] (fun rv i wr => ∃ (k : Nat) (av : List AnsU) (M D : Nat → Prop), k ≤ len ∧ i = .int .i64 k ∧ av.length = k ∧ ULoop rows x k w wr rv av av M D) (fun _ i _ => len - (intOf i).toNat)
  case atStart =>
    obtain ⟨M, D, h⟩ := HL0.out
    exact ⟨0, [], M, D, by omega, rfl, rfl, h⟩
  case round =>
    obtain ⟨k, av, M, D, hk, rfl, hka, hL⟩ := hrel
    by_cases hlt : k < len
    · obtain ⟨d, hdk⟩ : ∃ d, (rows.map RowV.deed ++ [true].map (endDeed N))[k]? = some d := ⟨_, List.getElem?_eq_getElem (by rw [← HN.out]; exact hlt)⟩
      obtain ⟨⟨ad, rfl, hbl, h0, h1, h2, h3⟩, _⟩ := (HD.out.below hL.below) k d hdk
      have HC := Lib.hid (HS.out x k _ _ av M D hL hka d hdk)
      have HKA := Lib.hid hka
      clear hL hdk hka
      go_wp2_with (first
        | (go_at_call 27
           refine (HC.out _ (by repeat (first | exact Below.refl _ _ | refine Below.setCell ?_ (Nat.le_refl _) _ | refine Below.alloc ?_ (Nat.le_refl _) _))).mono ?_
           rintro y w2 ⟨⟨er, R, rs⟩, M', D', rfl, ⟨A2, n2, c2, hR⟩, hL⟩
           simp only at hR
           subst hR
           have HL := Lib.hid hL
           have HO := Lib.hid hL.own
           have hs2 := hL.below.size
           rw [HKA.out] at HO
           clear hL)
        | (at_builtin
           refine wpList_append_any _ rfl (.tmp 23) (.tmp 27) _ rfl w.heap.size 52 i0 _ 3 40 Tryd.underlying44 hi hz0 hz1 hz2 rfl (by omega) _ k (flat AnsU.cells av) rfl
             (HO.out.alloc _) (w2.heap.size + 1) (some ⟨w2.heap.size, 0, none⟩) 1 1 [.int .i64 er, .bool false, .slice A2 n2 c2] rfl (reads_ansU _ _ _ _) (fun u hu => by simp at hu; rcases hu with rfl | rfl | rfl <;> rfl) (by simp only [maxLen]; omega) (by omega) (by simp; omega) ?_
           intro v3 w3 hown3 hg3 hat3
           have HO3 := Lib.hid hown3; have HG3 := Lib.hid hg3; have HA3 := Lib.hid hat3; clear hown3 hg3 hat3))
      exact ⟨⟨k + 1, av ++ [⟨er, .slice A2 n2 c2, rs⟩], M', D', by omega, by push_cast; rfl, by simp [HKA.out], HL.out.append (by rw [HKA.out]) HO3.out HG3.out HA3.out⟩, by simp [intOf]; omega⟩
    · have hke : k = len := by omega
      subst hke
      have hO := hL.own
      rw [hka] at hO
      obtain ⟨A', c', rfl⟩ := own_form hO
      have HO := Lib.hid hO
      have HL := Lib.hid hL
      clear hO hL
      go_wp2
      go_ret
      exact ⟨A', c', av, rfl, HO.out, hka, HL.out.ans, HL.out.below⟩


end Go.Proofs.YtffgkocokkhahaaDoor

/- A valid value that is brought (as Back, without a law's walk) into the database and out again is the same. No condition but that it is valid. -/
namespace Go.Proofs.YtffgkocokkhahaaDoor
open Go.RowKit

theorem zeros_b {f : Nat} {s : ByteArray} (h : zeros f s = true) : bitsV f = 0 ∧ s.toList = [] := by
  unfold zeros at h
  simp only [Bool.and_eq_true, beq_iff_eq, List.isEmpty_iff] at h
  exact h
theorem nil_toList : (⟨#[]⟩ : ByteArray).toList = [] := by decide +kernel
theorem bitsV_0 : bitsV 0 = 0 := by decide +kernel

theorem ba_eta (s : ByteArray) : (⟨s.data.toList.toArray⟩ : ByteArray) = s := by simp

/-- In and out again: the same. -/
theorem back_same {k : ByteArray} {n u : Int} {f : Nat} {s : ByteArray} {x : SV} {g : Nat} (hv : validB (Kd.of k.toList) n u f s = true) (hsv : SVof (Kd.of k.toList) n u f s x) (hg : FOut x g) :
    sameB x.nm x.oN x.oU g x.oS k n u f s = true := by
  have hko : Kd.of k.toList ≠ .other := fun h => by rw [h] at hv; exact absurd hv (by simp [validB])
  have hl := Kd.of_lit _ rfl hko
  generalize hK : Kd.of k.toList = K at hv hsv hl hko
  clear hK
  unfold sameB
  rw [hl]
  unfold SVof at hsv
  split at hsv
  · rename_i hc
    obtain ⟨y, rfl, hn, _⟩ := hsv
    obtain ⟨rfl, hnb⟩ := hc
    unfold FOut at hg
    rw [if_pos (by exact hn)] at hg
    rw [numB_nan] at hnb
    rw [bitsV_nan hg.1, bitsV_nan (f := f) (by simpa using hnb)]
    simp only [validB, Bool.and_eq_true, beq_iff_eq, List.isEmpty_iff] at hv
    obtain ⟨⟨⟨h1, h2⟩, h3⟩, _⟩ := hv
    subst h1 h2
    rw [h3]
    simp only [SV.nm, SV.oN, SV.oU, SV.oS]
    decide +kernel
  · rename_i hc
    subst hsv
    unfold FOut at hg
    cases K with
    | other => exact absurd rfl hko
    | null =>
      rw [if_neg (by simp [toSV, SV.isN32])] at hg
      simp only [validB, Bool.and_eq_true, beq_iff_eq] at hv
      obtain ⟨⟨rfl, rfl⟩, h3⟩ := hv
      obtain ⟨e1, e2⟩ := zeros_b h3
      rw [hg, e1, e2]
      simp only [toSV, SV.nm, SV.oN, SV.oU, SV.oF, SV.oS]
      decide +kernel
    | bool =>
      rw [if_neg (by simp [toSV, SV.isN32])] at hg
      simp only [validB, Bool.and_eq_true, Bool.or_eq_true, beq_iff_eq] at hv
      obtain ⟨⟨rfl, h3⟩, h4⟩ := hv
      obtain ⟨e1, e2⟩ := zeros_b h3
      rw [hg, e1, e2]
      simp only [toSV, SV.nm, SV.oN, SV.oU, SV.oF, SV.oS]
      rcases h4 with rfl | rfl <;> decide +kernel
    | int q =>
      rw [if_neg (by simp [toSV, SV.isN32])] at hg
      cases q <;>
      · simp only [validB, Bool.and_eq_true, beq_iff_eq] at hv
        obtain ⟨e1, e2⟩ := zeros_b (by first | exact hv.1.2 | exact hv.2)
        rw [hg, e1, e2]
        have h1 := (by first | exact hv.1.1 | exact hv.1)
        subst h1
        simp only [toSV, SV.nm, SV.oN, SV.oU, SV.oF, SV.oS, IntKind.signed, if_true, if_false, Bool.false_eq_true, bitsV_0, nil_toList]
        simp [Kd.lit]
        try decide +kernel
    | f32 =>
      have hnb : numB f = true := by
        cases h : numB f with
        | true => rfl
        | false => exact absurd ⟨rfl, h⟩ hc
      have hnn : (Ieee.double.read f).isNaN = false := by rw [numB_nan] at hnb; simpa using hnb
      rw [if_neg (by simp only [toSV, SV.isN32]; rw [down_num hnn]; simp)] at hg
      simp only [validB, single64, hnb, Bool.and_eq_true, beq_iff_eq, List.isEmpty_iff, Bool.not_true, Bool.false_or] at hv
      obtain ⟨⟨⟨rfl, rfl⟩, h3⟩, h4, _⟩ := hv
      rw [hg, h3]
      simp only [toSV, SV.nm, SV.oN, SV.oU, SV.oF, SV.oS, nil_toList]
      rw [h4]
      simp [Kd.lit]
      try decide +kernel
    | f64 =>
      rw [if_neg (by simp [toSV, SV.isN32])] at hg
      simp only [validB, Bool.and_eq_true, beq_iff_eq, List.isEmpty_iff] at hv
      obtain ⟨⟨rfl, rfl⟩, h3⟩ := hv
      rw [hg, h3]
      simp only [toSV, SV.nm, SV.oN, SV.oU, SV.oF, SV.oS, nil_toList]
      simp [Kd.lit]
      try decide +kernel
    | str =>
      rw [if_neg (by simp [toSV, SV.isN32])] at hg
      simp only [validB, Bool.and_eq_true, beq_iff_eq] at hv
      obtain ⟨⟨⟨rfl, rfl⟩, h3⟩, _⟩ := hv
      rw [hg, h3]
      simp only [toSV, SV.nm, SV.oN, SV.oU, SV.oF, SV.oS, bitsV_0]
      simp [Kd.lit]
      try decide +kernel
    | blob =>
      rw [if_neg (by simp [toSV, SV.isN32])] at hg
      simp only [validB, Bool.and_eq_true, beq_iff_eq] at hv
      obtain ⟨⟨⟨rfl, rfl⟩, h3⟩, _⟩ := hv
      rw [hg, h3]
      simp only [toSV, SV.nm, SV.oN, SV.oU, SV.oF, SV.oS, bitsV_0, ba_eta]
      simp [Kd.lit]
      try decide +kernel
    | iInt =>
      rw [if_neg (by simp [toSV, SV.isN32])] at hg
      simp only [validB, Bool.and_eq_true, beq_iff_eq] at hv
      obtain ⟨⟨rfl, h3⟩, _⟩ := hv
      obtain ⟨e1, e2⟩ := zeros_b h3
      rw [hg, e1, e2]
      simp only [toSV, SV.nm, SV.oN, SV.oU, SV.oF, SV.oS, bitsV_0, nil_toList]
      simp [Kd.lit]
      try decide +kernel
    | iRune =>
      rw [if_neg (by simp [toSV, SV.isN32])] at hg
      simp only [validB, Bool.and_eq_true, beq_iff_eq] at hv
      obtain ⟨⟨rfl, h3⟩, _⟩ := hv
      obtain ⟨e1, e2⟩ := zeros_b h3
      rw [hg, e1, e2]
      simp only [toSV, SV.nm, SV.oN, SV.oU, SV.oF, SV.oS, bitsV_0, nil_toList]
      simp [Kd.lit]
      try decide +kernel
    | iUint =>
      rw [if_neg (by simp [toSV, SV.isN32])] at hg
      simp only [validB, Bool.and_eq_true, beq_iff_eq] at hv
      obtain ⟨rfl, h3⟩ := hv
      obtain ⟨e1, e2⟩ := zeros_b h3
      rw [hg, e1, e2]
      simp only [toSV, SV.nm, SV.oN, SV.oU, SV.oF, SV.oS, bitsV_0, nil_toList]
      simp [Kd.lit]
      try decide +kernel
    | iFloat =>
      rw [if_neg (by simp [toSV, SV.isN32])] at hg
      simp only [validB, Bool.and_eq_true, beq_iff_eq, List.isEmpty_iff] at hv
      obtain ⟨⟨rfl, rfl⟩, h3⟩ := hv
      rw [hg, h3]
      simp only [toSV, SV.nm, SV.oN, SV.oU, SV.oF, SV.oS, nil_toList]
      simp [Kd.lit]
      try decide +kernel

end Go.Proofs.YtffgkocokkhahaaDoor

/- Rows that came out of an index are the same as those that were put in. -/
namespace Go.Proofs.YtffgkocokkhahaaDoor
open Go.RowKit

def SameL (l m : List VV) : Prop := l.length = m.length ∧ ∀ (i : Nat) (x y : VV), l[i]? = some x → m[i]? = some y → sameB x.k x.n x.u x.f x.s y.k y.n y.u y.f y.s = true
def SameR (a b : RowV) : Prop := a.h = b.h ∧ SameL a.us b.us
def SameRs (l m : List RowV) : Prop := l.length = m.length ∧ ∀ (i : Nat) (a b : RowV), l[i]? = some a → m[i]? = some b → SameR a b

theorem out_same {x u : VV} (hc : x.conc = true) (h : OutOf x u) : sameB u.k u.n u.u u.f u.s x.k x.n x.u x.f x.s = true := by
  obtain ⟨y, hy, _, hf, h1, h2, h3, h4⟩ := h
  rw [h1, h2, h3, h4]
  exact back_same (conc_valid hc) hy hf

theorem rowOk_same {B : Nat} {w : World} {r b : RowV} (h : RowOk B w b.key.xe r) (hc : ConcL b.us) : SameR r b :=
  ⟨h.h, h.len, fun i x y hx hy => out_same (hc i y hy).1 (h.outs i y x hy hx)⟩

theorem ans_same {B : Nat} {w : World} {ks : List Key} {R : Value} {rs : List RowV} (h : AnsRows B w ks R rs) {ws : List RowV} (hw : ws.map RowV.key = ks) (hc : ∀ r ∈ ws, ConcL r.us) : SameRs rs ws := by
  refine ⟨by rw [h.len, ← hw]; simp, fun i a b ha hb => ?_⟩
  have hk : ks[i]? = some b.key := by rw [← hw, List.getElem?_map, hb]; rfl
  exact rowOk_same (h.rows i b.key a hk ha) (hc b (List.mem_of_getElem? hb))

end Go.Proofs.YtffgkocokkhahaaDoor

/- What came out of an index is a value that can be compared, as what was put in. -/
namespace Go.Proofs.YtffgkocokkhahaaDoor
open Go.RowKit

theorem oF_eq {K : Kd} {n u : Int} {f : Nat} {s : ByteArray} (hv : validB K n u f s = true) (hid : K.ideal = false) (hnb : numB f = true) : (toSV K n u f s).oF = f ∧ ((toSV K n u f s).oS = s ∨ (K ≠ .str ∧ K ≠ .blob)) := by
  have hbv : bitsV f = f := by unfold bitsV; rw [if_pos hnb]
  have z : zeros f s = true → 0 = f := fun h => by have := (zeros_b h).1; omega
  cases K with
  | null =>
    simp only [validB, Bool.and_eq_true, beq_iff_eq] at hv
    exact ⟨z hv.2, .inr ⟨by simp, by simp⟩⟩
  | bool =>
    simp only [validB, Bool.and_eq_true, beq_iff_eq] at hv
    exact ⟨z hv.1.2, .inr ⟨by simp, by simp⟩⟩
  | int q =>
    refine ⟨z ?_, .inr ⟨by simp, by simp⟩⟩
    cases q <;> simp only [validB, Bool.and_eq_true, beq_iff_eq] at hv <;> first | exact hv.1.2 | exact hv.2
  | f32 =>
    simp only [validB, single64, hnb, Bool.not_true, Bool.false_or, Bool.and_eq_true, beq_iff_eq] at hv
    exact ⟨hv.2.1, .inr ⟨by simp, by simp⟩⟩
  | f64 => exact ⟨rfl, .inr ⟨by simp, by simp⟩⟩
  | str =>
    simp only [validB, Bool.and_eq_true, beq_iff_eq] at hv
    exact ⟨by have := hv.1.2; show 0 = f; omega, .inl rfl⟩
  | blob =>
    simp only [validB, Bool.and_eq_true, beq_iff_eq] at hv
    exact ⟨by have := hv.1.2; show 0 = f; omega, .inl (ba_eta _)⟩
  | other => simp [validB] at hv
  | iInt => simp [Kd.ideal] at hid
  | iRune => simp [Kd.ideal] at hid
  | iUint => simp [Kd.ideal] at hid
  | iFloat => simp [Kd.ideal] at hid

theorem valid_s {K : Kd} {n u : Int} {f : Nat} {s s' : ByteArray} (hv : validB K n u f s = true) (n1 : K ≠ .str) (n2 : K ≠ .blob) (hs : s'.toList = s.toList) : validB K n u f s' = true ∧ toSV K n u f s' = toSV K n u f s := by
  cases K with
  | int q => exact ⟨by cases q <;> simpa [validB, zeros, hs] using hv, rfl⟩
  | str => exact absurd rfl n1
  | blob => exact absurd rfl n2
  | other => simp [validB] at hv
  | _ => exact ⟨by simpa [validB, zeros, hs] using hv, rfl⟩

theorem out_conc {x u : VV} (hc : x.conc = true) (hr : Rng x.n x.u x.f) (h : OutOf x u) : (u.conc = true ∧ Rng u.n u.u u.f) ∧ u.sv = x.sv := by
  have hs := out_same hc h
  obtain ⟨y, hy, _, hf, h1, h2, h3, h4⟩ := h
  obtain rfl := (conc_sv hc).1 y hy
  have hc' : concB (Kd.of x.k.toList) x.n x.u x.f x.s = true := hc
  unfold sameB at hs
  simp only [Bool.and_eq_true, beq_iff_eq] at hs
  obtain ⟨⟨⟨⟨e1, e2⟩, e3⟩, _⟩, e5⟩ := hs
  unfold VV.conc VV.sv
  rw [e1, e2, e3]
  unfold concB at hc' ⊢
  simp only [Bool.and_eq_true, Bool.not_eq_true'] at hc' ⊢
  obtain ⟨⟨hv, hid⟩, hnb⟩ := hc'
  have hn32 : (toSV (Kd.of x.k.toList) x.n x.u x.f x.s).isN32 = false := by
    have hnn : (Ieee.double.read x.f).isNaN = false := by rw [numB_nan] at hnb; simpa using hnb
    cases hk : Kd.of x.k.toList <;> first | rfl | exact down_num hnn
  unfold FOut at hf
  rw [if_neg (by rw [hn32]; decide)] at hf
  obtain ⟨h5, h6⟩ := oF_eq hv hid hnb
  rw [hf, h5]
  rcases h6 with h6 | ⟨n1, n2⟩
  · rw [h4, h6]
    exact ⟨⟨⟨⟨hv, hid⟩, hnb⟩, hr⟩, rfl⟩
  · obtain ⟨hv2, hsv⟩ := valid_s (s' := u.s) hv n1 n2 e5
    exact ⟨⟨⟨⟨hv2, hid⟩, hnb⟩, hr⟩, hsv⟩

end Go.Proofs.YtffgkocokkhahaaDoor

/- laws.zzFits16 (as Sl7, without impl.KeyCompare); a list of one value in new memory. -/
namespace Go.Proofs.YtffgkocokkhahaaDoor
open Go.RowKit

theorem lat_new (w : World) (x : VV) (t : TypeId) : LAt (w.alloc (.cells #[.string x.k, .int .i64 x.n, .int .u64 x.u, .float .f64 x.f, .string x.s] t)) (some ⟨w.heap.size, 0, none⟩) [x] := by
  intro i y hy
  cases i with
  | zero =>
    obtain rfl : x = y := by simpa using hy
    exact ⟨_, rfl, by show w.heap.size < _; simp, World.cell?_alloc_mark w _ t (0, 0) 0, World.cell?_alloc_mark w _ t (0, 0) 1, World.cell?_alloc_mark w _ t (0, 0) 2, World.cell?_alloc_mark w _ t (0, 0) 3, World.cell?_alloc_mark w _ t (0, 0) 4⟩
  | succ i => simp at hy

def numV (n : Int) : VV := ⟨int64S, n, 0, 0, empS⟩
theorem numV_conc : ConcL [numV 1] ∧ ConcL [numV 2] ∧ collV [numV 1] [numV 2] = -1 := by
  refine ⟨fun j x hx => ?_, fun j x hx => ?_, by decide +kernel⟩
  all_goals
    cases j with
    | zero =>
      obtain rfl := (Option.some.inj hx)
      exact ⟨by decide +kernel, by simp [numV, Rng]⟩
    | succ j => simp at hx

set_option maxHeartbeats 400000 in
theorem zzFits16_any (l : List VV) (A : Option Addr) (c : Nat) (h : Int) (w : World) (hl : LAt w A l) :
    Calls Tryd.prog 25 #[.agg #[.slice A l.length c, .int .i64 h]] w fun e w' => e = .returned (.bool (fits2B l)) ∧ Below w.heap.size w w' := by
  cases hf : fits2B l with
  | false =>
    have HZ := Lib.hid (fun w' (hb : Below w.heap.size w w') => show Calls Tryd.prog 31 #[.slice A l.length c] w' fun e w'' => e = .returned (.bool false) ∧ Below w'.heap.size w' w'' by rw [← hf]; exact zzFits2_any l A c w' (hl.below hb))
    clear hl hf
    go_enter Tryd.func25, Tryd.ntmps25
    go_wp2_with (go_at_call 31; refine (HZ.out _ ((Below.refl _ _).alloc (Nat.le_refl _) _)).mono ?_; rintro e w1 ⟨rfl, hb1⟩)
    go_ret
    exact ⟨rfl, up_below' ((Below.refl _ _).alloc (Nat.le_refl _) _) hb1⟩
  | true =>
    have HZ := Lib.hid (fun w' (hb : Below w.heap.size w w') => show Calls Tryd.prog 31 #[.slice A l.length c] w' fun e w'' => e = .returned (.bool true) ∧ Below w'.heap.size w' w'' by rw [← hf]; exact zzFits2_any l A c w' (hl.below hb))
    clear hl hf
    go_enter Tryd.func25, Tryd.ntmps25
    go_wp2_with (go_at_call 31; refine (HZ.out _ ((Below.refl _ _).alloc (Nat.le_refl _) _)).mono ?_; rintro e w1 ⟨rfl, hb1⟩)
    go_ret
    exact ⟨rfl, up_below' ((Below.refl _ _).alloc (Nat.le_refl _) _) hb1⟩

end Go.Proofs.YtffgkocokkhahaaDoor

/- laws.zzFits17, laws.isKey, laws.filled. -/
namespace Go.Proofs.YtffgkocokkhahaaDoor
open Go.RowKit

def fits17B (rows : List RowV) : Bool := decide (rows.length ≤ 2147483647) && rows.all fun r => fits2B r.us

set_option maxHeartbeats 1000000 in
theorem zzFits17_any (rows : List RowV) (A : Option Addr) (c : Nat) (w : World) (hl : RowsAt w A rows) :
    Calls Tryd.prog 11 #[.slice A rows.length c] w fun e w' => e = .returned (.bool (fits17B rows)) ∧ Below w.heap.size w w' := by
  obtain ⟨len, hlen⟩ : ∃ len, len = rows.length := ⟨_, rfl⟩
  have HL := Lib.hid hl
  have HN := Lib.hid hlen
  rw [← hlen]
  have HB : Hid (2147483647 < len → fits17B rows = false) := fun h => by unfold fits17B; rw [← hlen]; simp; omega
  have HE : Hid (∀ (k : Nat) (x : RowV), rows[k]? = some x → fits2B x.us = false → fits17B rows = false) := fun k x hx hf => by
    unfold fits17B
    rw [Bool.and_eq_false_iff]
    right
    rw [List.all_eq_false]
    exact ⟨x, List.mem_of_getElem? hx, by rw [hf]; decide⟩
  have HY : Hid (len ≤ 2147483647 → (∀ j x, j < len → rows[j]? = some x → fits2B x.us = true) → fits17B rows = true) := fun h1 h2 => by
    unfold fits17B
    rw [Bool.and_eq_true, decide_eq_true_eq, List.all_eq_true]
    refine ⟨by omega, fun x hx => ?_⟩
    obtain ⟨j, hj, rfl⟩ := List.getElem_of_mem hx
    exact h2 j _ (by omega) (List.getElem?_eq_getElem hj)
  clear hl hlen
  go_enter Tryd.func11, Tryd.ntmps11
  have HF := Lib.hid (fun (r : RowV) (b : Bool) (h : fits2B r.us = b) (w : World) (hl : LAt w r.A r.us) => show Calls Tryd.prog 25 #[.agg #[.slice r.A r.us.length r.c, .int .i64 r.h]] w fun e w' => e = .returned (.bool b) ∧ Below w.heap.size w w' by rw [← h]; exact zzFits16_any r.us r.A r.c r.h w hl)
  go_wp2
  · go_ret
    exact ⟨by rw [HB.out (by omega)]; rfl, Below.refl _ _⟩
  go_loopw [10] (fun i wr => ∃ k : Nat, k ≤ len ∧ i = .int .i64 k ∧ Below w.heap.size w wr ∧ ∀ j x, j < k → rows[j]? = some x → fits2B x.us = true) (fun i _ => len - (intOf i).toNat)
  case atStart => exact ⟨0, by omega, rfl, Below.refl _ _, fun _ _ h => by omega⟩
  case round =>
    obtain ⟨k, hk, rfl, hb, hall⟩ := hrel
    have HA := Lib.hid hall
    clear hall
    by_cases hlt : k < len
    · obtain ⟨x, hx'⟩ : ∃ x, rows[k]? = some x := ⟨_, List.getElem?_eq_getElem (by rw [← HN.out]; exact hlt)⟩
      have HX := Lib.hid hx'
      obtain ⟨⟨ad, rfl, hbl, h0, h1⟩, hl⟩ := (HL.out.below hb) k x hx'
      have HLA := Lib.hid hl
      clear hx' hl
      have hs := hb.size
      cases hf : fits2B x.us with
      | false =>
        have HW := Lib.hid (HF.out x false hf)
        have hf' := Lib.hid hf
        clear hf
        go_wp2_with (go_at_call 25; refine (HW.out _ (HLA.out.below ((Below.refl _ _).alloc (Nat.le_refl _) _))).mono ?_; rintro e w1 ⟨rfl, hb1⟩)
        go_ret
        exact ⟨by rw [HE.out k x HX.out hf'.out]; rfl, up_below' (hb.alloc hb.size _) hb1⟩
      | true =>
        have HW := Lib.hid (HF.out x true hf)
        have hf' := Lib.hid hf
        clear hf
        go_wp2_with (go_at_call 25; refine (HW.out _ (HLA.out.below ((Below.refl _ _).alloc (Nat.le_refl _) _))).mono ?_; rintro e w1 ⟨rfl, hb1⟩)
        refine ⟨⟨k + 1, by omega, by push_cast; rfl, up_below' (hb.alloc hb.size _) hb1, fun j y hj hy => ?_⟩, by simp [intOf]; omega⟩
        rcases Nat.lt_or_ge j k with h | h
        · exact HA.out j y h hy
        · obtain rfl : j = k := by omega
          obtain rfl : y = x := Option.some.inj (hy.symm.trans HX.out)
          exact hf'.out
    · have hke : k = len := by omega
      subst hke
      go_wp2
      go_ret
      exact ⟨by rw [HY.out (by omega) HA.out]; rfl, hb⟩

def isKeyB (l : List VV) (n : Int) : Bool := ((l.length : Int) == n) && concL l n

set_option maxHeartbeats 1000000 in
theorem isKey_any (l : List VV) (A : Option Addr) (c : Nat) (n : Int) (w : World) (hl : LAt w A l) (hm : l.length ≤ 9223372036854775807) :
    Calls Tryd.prog 7 #[.slice A l.length c, .int .i64 n] w fun e w' => e = .returned (.bool (isKeyB l n)) ∧ Below w.heap.size w w' := by
  have HA := Lib.hid (allConcrete_any l A c n w hl hm)
  clear hl
  cases h : ((l.length : Int) == n) with
  | false =>
    have e : isKeyB l n = false := by unfold isKeyB; rw [h]; rfl
    rw [e]
    clear e
    go_enter Tryd.func7, Tryd.ntmps7
    go_wp2
    go_ret
    exact ⟨rfl, Below.refl _ _⟩
  | true =>
    have e : isKeyB l n = concL l n := by unfold isKeyB; rw [h]; rfl
    rw [e]
    clear e
    go_enter Tryd.func7, Tryd.ntmps7
    go_wp2_with (go_at_call 8; refine HA.out.mono ?_; rintro e w1 ⟨rfl, hb1⟩)
    go_ret
    exact ⟨rfl, hb1⟩

theorem isKey_conc {r : RowV} {n : Int} (h : isKeyB r.us n = true) (hr : RowRng r) : (r.us.length : Int) = n ∧ ConcL r.us := by
  unfold isKeyB at h
  rw [Bool.and_eq_true] at h
  obtain ⟨h1, h2⟩ := h
  unfold concL at h2
  rw [Bool.and_eq_true, List.all_eq_true] at h2
  exact ⟨by simpa using h1, fun j x hx => ⟨h2.2 x (List.mem_of_getElem? hx), hr.vals j x hx⟩⟩

theorem info_ideed : (Tryd.prog.info? 43).map (fun i => (i.zero, i.size, i.bytes)) = some (some (.agg #[.string ⟨#[]⟩, .slice none 0 0, .int .i64 0, .int .i64 0]), 4, 56) := by kernel_rfl

def FilledP (rows : List RowV) (n : Int) (w : World) (y : Ending) (w' : World) : Prop :=
  (y = .returned (.tuple #[.slice none 0 0, .bool false]) ∧ Below w.heap.size w w') ∨
  ∃ A c nn, y = .returned (.tuple #[.slice A rows.length c, .bool true]) ∧ w'.ownsRow w.heap.size 43 4 (.slice A rows.length c) rows.length (flat DeedV.cells (rows.map RowV.deed)) ∧ Below w.heap.size w w' ∧ rows.length ≤ 600 ∧ n = (nn : Nat) ∧ 1 ≤ nn ∧ nn ≤ 3 ∧ RowsGood rows nn

theorem good_of {rows : List RowV} {n : Int} {nn : Nat} (hn : n = nn) (hr : ∀ r ∈ rows, RowRng r) (h1 : ∀ (j : Nat) (r : RowV), j < rows.length → rows[j]? = some r → isKeyB r.us n = true ∧ 1 ≤ r.h) (h2 : ∀ (i j : Nat) (a b : RowV), i < j → j < rows.length → rows[i]? = some a → rows[j]? = some b → (a.h == b.h) = false) : RowsGood rows nn := by
  have hm : ∀ r ∈ rows, isKeyB r.us n = true ∧ 1 ≤ r.h := fun r hr => by
    obtain ⟨j, hj, rfl⟩ := List.getElem_of_mem hr
    exact h1 j _ hj (List.getElem?_eq_getElem hj)
  refine ⟨⟨fun x hx => ?_, fun i j a b hij ha hb => ?_⟩, fun r hr' => (isKey_conc (hm r hr').1 (hr r hr')).2, fun r hr' => (hm r hr').2, fun r hr' => (hr r hr').hi⟩
  · obtain ⟨r, hr', rfl⟩ := List.mem_map.1 hx
    have := (isKey_conc (hm r hr').1 (hr r hr')).1
    show r.us.length = nn
    omega
  · rw [List.getElem?_map] at ha hb
    obtain ⟨p, hp, rfl⟩ := Option.map_eq_some_iff.1 ha
    obtain ⟨q, hq, rfl⟩ := Option.map_eq_some_iff.1 hb
    have := h2 i j p q hij (List.getElem?_eq_some_iff.1 hq).1 hp hq
    show p.h ≠ q.h
    simpa using this

end Go.Proofs.YtffgkocokkhahaaDoor
