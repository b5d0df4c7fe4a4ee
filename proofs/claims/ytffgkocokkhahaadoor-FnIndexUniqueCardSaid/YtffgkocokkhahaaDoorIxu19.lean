/-
  Walking a unique index: (*xenumerator2).Next. || Keys put in order, one after the other. || The order of a unique index's keys: of no value, or of one.
-/
import Derived.Test.YtffgkocokkhahaaDoorIxu14
import Derived.Test.YtffgkocokkhahaaDoorIxu12
import Derived.Test.YtffgkocokkhahaaDoorIxu18

/- Walking a unique index: (*xenumerator2).Next. -/
namespace Go.Proofs.YtffgkocokkhahaaDoor
open Go.RowKit

@[go_sem] theorem eql_nil_some (ad : Addr) (n c : Nat) (w : World) : (binOp .eql 77 (.slice (some ad) n c) (.slice none 0 0)).run Tryd.prog w = .ok (.bool false) w := by kernel_rfl
@[go_sem] theorem eql_nil_none (w : World) : (binOp .eql 77 (.slice none 0 0) (.slice none 0 0)).run Tryd.prog w = .ok (.bool true) w := by kernel_rfl

set_option maxRecDepth 100000 in
set_option maxHeartbeats 1000000 in
theorem Next2_val {P : List Pg} {b t : Nat} {ver : Int} {E : Value} {g : Nat} {c : Int} {fi la r : Value} {w : World} (l : List VV) (ad : Addr) (xm xp : Nat) (xh xn : Int) (hch : Chain w (.pointer none) P (.pointer none)) (hn : ∀ p ∈ P, 1 ≤ p.2.length)
    (ht : TreeW w t c fi la r ver) (hE : HasEof w E) (hbE : ¬ 0 = b) (h : AtN P w b t ver true E g) (hx : (ents P)[g]? = some ⟨l, some ad, xm, xp, xh, xn⟩) :
    Calls Tryd.prog 165 #[.pointer (some ⟨b, 0, none⟩)] w (Got2 ⟨l, some ad, xm, xp, xn, xn⟩ b (fun w' => AtN P w' b t ver true E (g + 1)) w) := by
  have HN := Lib.hid (Next_step ⟨l, some ad, xm, xp, xh, xn⟩ hch hn ht hE hbE h hx)
  clear hch hn ht hE h hx
  go_enter Tryd.func165, Tryd.ntmps165
  go_wp2_with (go_at_call 161; refine HN.out.mono ?_; rintro y w1 ⟨rfl, hq, hc⟩; have HQ := Lib.hid hq; have HC := Lib.hid hc; have cu := hq.uni; have lb := hq.lt; clear hq hc)
  go_ret3
  exact ⟨rfl, HQ.out.chg ((Chg.refl (fun _ => False) w1).alloc _) (fun h => h), HC.out.alloc _⟩

set_option maxRecDepth 100000 in
set_option maxHeartbeats 1000000 in
theorem Next2_null {P : List Pg} {b t : Nat} {ver : Int} {E : Value} {g : Nat} {c : Int} {fi la r : Value} {w : World} (l : List VV) (xh xn : Int) (hch : Chain w (.pointer none) P (.pointer none)) (hn : ∀ p ∈ P, 1 ≤ p.2.length)
    (ht : TreeW w t c fi la r ver) (hE : HasEof w E) (hbE : ¬ 0 = b) (h : AtN P w b t ver true E g) (hx : (ents P)[g]? = some ⟨l, none, 0, 0, xh, xn⟩) :
    Calls Tryd.prog 165 #[.pointer (some ⟨b, 0, none⟩)] w (Got2 ⟨l, none, 0, 0, xh, xn⟩ b (fun w' => AtN P w' b t ver true E (g + 1)) w) := by
  have HN := Lib.hid (Next_step ⟨l, none, 0, 0, xh, xn⟩ hch hn ht hE hbE h hx)
  clear hch hn ht hE h hx
  go_enter Tryd.func165, Tryd.ntmps165
  go_wp2_with (go_at_call 161; refine HN.out.mono ?_; rintro y w1 ⟨rfl, hq, hc⟩; have HQ := Lib.hid hq; have HC := Lib.hid hc; have cu := hq.uni; have lb := hq.lt; clear hq hc)
  go_region
  go_wp2
  go_ret3
  exact ⟨rfl, HQ.out.chg ((Chg.refl (fun _ => False) w1).alloc _).drew (fun h => h), (HC.out.alloc _).drew⟩

end Go.Proofs.YtffgkocokkhahaaDoor

/- Keys put in order, one after the other. -/
namespace Go.Proofs.YtffgkocokkhahaaDoor
open Go.RowKit

def insK (r : Key) : List Key → List Key
  | [] => [r]
  | x :: l => if r.c x < 0 then r :: x :: l else x :: insK r l

def sortK (ks : List Key) : List Key := ks.foldl (fun out r => insK r out) []

def signK (r : Key) (out : List Key) : Nat → Int := fun j => match out[j]? with
  | some x => r.c x
  | none => 0

theorem signK_at {r x : Key} {out : List Key} {j : Nat} (h : out[j]? = some x) : signK r out j = r.c x := by unfold signK; rw [h]

theorem insK_at (r : Key) : ∀ (out : List Key) (g : Nat), g ≤ out.length → (∀ (j : Nat) (x : Key), j < g → out[j]? = some x → 0 < r.c x) → (∀ x, out[g]? = some x → r.c x < 0) → insK r out = out.take g ++ r :: out.drop g
  | [], g, hg, _, _ => by
    obtain rfl : g = 0 := by simpa using hg
    rfl
  | x :: l, 0, _, _, h => by
    have := h x rfl
    simp [insK, this]
  | x :: l, g + 1, hg, ha, hb => by
    have h1 := ha 0 x (by omega) rfl
    have h2 : ¬ r.c x < 0 := by omega
    rw [insK, if_neg h2, insK_at r l g (by simpa using hg) (fun j y hj hy => ha (j + 1) y (by omega) (by simpa using hy)) (fun y hy => hb y (by simpa using hy))]
    simp

theorem insK_pos {r : Key} {out : List Key} {g : Nat} (hp : Pos (signK r out) out.length g false) : insK r out = out.take g ++ r :: out.drop g := by
  refine insK_at r out g hp.le (fun j x hj hx => ?_) (fun x hx => ?_)
  · rw [← signK_at hx]; exact hp.ahead j hj
  · rw [← signK_at hx]; exact hp.miss rfl (List.getElem?_eq_some_iff.1 hx).1

theorem mem_insK {r k : Key} : ∀ {out : List Key}, k ∈ insK r out ↔ k = r ∨ k ∈ out
  | [] => by simp [insK]
  | x :: l => by
    unfold insK
    split
    · simp
    · simp only [List.mem_cons, mem_insK]
      exact ⟨fun h => by rcases h with h | h | h <;> simp [h], fun h => by rcases h with h | h | h <;> simp [h]⟩

theorem length_insK {r : Key} : ∀ {out : List Key}, (insK r out).length = out.length + 1
  | [] => rfl
  | x :: l => by
    unfold insK
    split
    · simp
    · simp [length_insK (r := r) (out := l)]

theorem sortK_snoc (ks : List Key) (r : Key) : sortK (ks ++ [r]) = insK r (sortK ks) := by simp [sortK]

theorem length_sortK (ks : List Key) : (sortK ks).length = ks.length := by
  have h : ∀ (ks out : List Key), (ks.foldl (fun out r => insK r out) out).length = out.length + ks.length := by
    intro ks
    induction ks with
    | nil => intro out; simp
    | cons k ks ih => intro out; simp only [List.foldl_cons, ih, length_insK, List.length_cons]; omega
  have := h ks []
  simpa [sortK] using this

theorem mem_sortK {k : Key} (ks : List Key) : k ∈ sortK ks ↔ k ∈ ks := by
  have h : ∀ (ks out : List Key), k ∈ ks.foldl (fun out r => insK r out) out ↔ k ∈ ks ∨ k ∈ out := by
    intro ks
    induction ks with
    | nil => intro out; simp
    | cons a ks ih =>
      intro out
      simp only [List.foldl_cons, ih, mem_insK, List.mem_cons]
      exact ⟨fun h => by rcases h with h | h | h <;> simp [h], fun h => by rcases h with (h | h) | h <;> simp [h]⟩
  have := h ks []
  simpa [sortK] using this

def Srt (out : List Key) : Prop := out.Pairwise fun a b => a.c b < 0

theorem srt_insK {r : Key} {n : Nat} (hr : r.l.length = n) : ∀ {out : List Key}, Srt out → (∀ x ∈ out, x.l.length = n) → (∀ x ∈ out, r.c x ≠ 0) → Srt (insK r out)
  | [], _, _, _ => by simp [insK, Srt]
  | x :: l, hs, hl, hn => by
    have hx := List.pairwise_cons.1 hs
    have lx := hl x (by simp)
    have nx := hn x (by simp)
    unfold insK
    split
    · rename_i hlt
      refine List.pairwise_cons.2 ⟨fun y hy => ?_, hs⟩
      rcases List.mem_cons.1 hy with rfl | hy
      · exact hlt
      · exact Key.trans (hr.trans lx.symm) (lx.trans (hl y (by simp [hy])).symm) hlt (hx.1 y hy)
    · rename_i hge
      refine List.pairwise_cons.2 ⟨fun y hy => ?_, srt_insK hr hx.2 (fun y hy => hl y (by simp [hy])) (fun y hy => hn y (by simp [hy]))⟩
      rcases mem_insK.1 hy with rfl | hy
      · rw [Key.anti]; omega
      · exact hx.1 y hy

theorem place_srt {r : Key} {n : Nat} (hr : r.l.length = n) {out : List Key} (hs : Srt out) (hl : ∀ x ∈ out, x.l.length = n) (hn : ∀ x ∈ out, r.c x ≠ 0) : ∃ g, Pos (signK r out) out.length g false := by
  have hg : ∀ (j : Nat) (h : j < out.length), signK r out j = r.c out[j] := fun j h => signK_at (List.getElem?_eq_getElem h)
  obtain ⟨g, ok, hp⟩ := pos_exists (signK r out) out.length (fun i j h1 h2 h3 => by
    have hi : i < out.length := by omega
    rw [hg i hi] at h3
    rw [hg j h2]
    have h4 := hn _ (List.getElem_mem hi)
    have h5 := List.pairwise_iff_getElem.1 hs i j hi h2 h1
    exact Key.trans (hr.trans (hl _ (List.getElem_mem hi)).symm) ((hl _ (List.getElem_mem hi)).trans (hl _ (List.getElem_mem h2)).symm) (by omega) h5)
  cases ok with
  | false => exact ⟨g, hp⟩
  | true =>
    have h := hp.hit rfl
    rw [hg g h.1] at h
    exact absurd h.2 (hn _ (List.getElem_mem h.1))

/-- Keys of as many values, no two of one handle. -/
structure KeysOk (ks : List Key) (n : Nat) : Prop where
  len : ∀ x ∈ ks, x.l.length = n
  ne : ∀ (i j : Nat) (a b : Key), i < j → ks[i]? = some a → ks[j]? = some b → a.h ≠ b.h

theorem c_ne {a b : Key} (h : a.h ≠ b.h) : a.c b ≠ 0 := by unfold Key.c; split <;> omega

theorem take_snoc {α : Type} {l : List α} {k : Nat} {r : α} (h : l[k]? = some r) : l.take (k + 1) = l.take k ++ [r] := by
  rw [List.take_add_one, h]; rfl

theorem mem_take_at {α : Type} {l : List α} {k : Nat} {x : α} (h : x ∈ l.take k) : ∃ i, i < k ∧ l[i]? = some x := by
  obtain ⟨i, hi, rfl⟩ := List.getElem_of_mem h
  have h1 : i < k ∧ i < l.length := by simp at hi; omega
  exact ⟨i, h1.1, by rw [List.getElem_take]; exact List.getElem?_eq_getElem h1.2⟩

theorem KeysOk.off {ks : List Key} {n : Nat} (h : KeysOk ks n) {k : Nat} {r : Key} (hr : ks[k]? = some r) : ∀ x ∈ sortK (ks.take k), x.l.length = n ∧ r.c x ≠ 0 := by
  intro x hx
  obtain ⟨i, hi, hx⟩ := mem_take_at ((mem_sortK _).1 hx)
  exact ⟨h.len x (List.mem_of_getElem? hx), c_ne (fun e => h.ne i k x r hi hx hr e.symm)⟩

theorem KeysOk.srt {ks : List Key} {n : Nat} (h : KeysOk ks n) : ∀ (k : Nat), k ≤ ks.length → Srt (sortK (ks.take k))
  | 0, _ => by simp [sortK, Srt]
  | k + 1, hk => by
    have hr : ks[k]? = some ks[k] := List.getElem?_eq_getElem (by omega)
    rw [take_snoc hr, sortK_snoc]
    exact srt_insK (h.len _ (List.mem_of_getElem? hr)) (h.srt k (by omega)) (fun x hx => (h.off hr x hx).1) (fun x hx => (h.off hr x hx).2)

theorem KeysOk.place {ks : List Key} {n : Nat} (h : KeysOk ks n) {k : Nat} {r : Key} (hr : ks[k]? = some r) : ∃ g, Pos (signK r (sortK (ks.take k))) (sortK (ks.take k)).length g false :=
  place_srt (h.len _ (List.mem_of_getElem? hr)) (h.srt k (by have := (List.getElem?_eq_some_iff.1 hr).1; omega)) (fun x hx => (h.off hr x hx).1) (fun x hx => (h.off hr x hx).2)

/-- The place that is found from the end. -/
theorem scan_pos {s : Nat → Int} {n g k : Nat} (hp : Pos s n g false) (hk : k ≤ n) (hd : ∀ j, k ≤ j → j < n → s j < 0) (hs : ∀ i, k = i + 1 → ¬ s i < 0) : k = g := by
  rcases Nat.lt_trichotomy k g with h | h | h
  · have h1 := hp.ahead k h
    have h2 := hd k (Nat.le_refl _) (Nat.lt_of_lt_of_le h hp.le)
    omega
  · exact h
  · obtain ⟨i, rfl⟩ : ∃ i, k = i + 1 := ⟨k - 1, by omega⟩
    refine absurd ?_ (hs i rfl)
    rcases Nat.lt_or_ge g i with h1 | h1
    · exact hp.behind i h1 (by omega)
    · obtain rfl : i = g := by omega
      exact hp.miss rfl (by omega)

end Go.Proofs.YtffgkocokkhahaaDoor

/- The order of a unique index's keys: of no value, or of one. -/
namespace Go.Proofs.YtffgkocokkhahaaDoor
open Go.RowKit

set_option maxRecDepth 100000 in
set_option maxHeartbeats 1000000 in
theorem collate_nil_one (B : Option Addr) (n d : Nat) (hn : 0 < n) (w : World) : Calls Tryd.prog 65 #[.slice none 0 0, .slice B n d] w (ColP (-1) w) := by
  have hn0 : ((n : Int) == 0) = false := by simp; omega
  have hn1 : ((n : Int) != 0) = true := by simp; omega
  go_enter Tryd.func65, Tryd.ntmps65
  go_wp2
  go_ret
  exact ⟨rfl, Below.refl _ _⟩

set_option maxRecDepth 100000 in
set_option maxHeartbeats 1000000 in
theorem collate_one_nil (B : Option Addr) (n d : Nat) (hn : 0 < n) (w : World) : Calls Tryd.prog 65 #[.slice B n d, .slice none 0 0] w (ColP 1 w) := by
  have hn0 : ((n : Int) == 0) = false := by simp; omega
  have hn1 : ((n : Int) != 0) = true := by simp; omega
  go_enter Tryd.func65, Tryd.ntmps65
  go_wp2
  go_ret
  exact ⟨rfl, Below.refl _ _⟩

/-- No value comes ahead of one. -/
def ucoll : List VV → List VV → Int
  | [], [] => 0
  | [], _ :: _ => -1
  | _ :: _, [] => 1
  | x :: l, y :: m => lexV (x :: l) (y :: m)

def Key.u (a b : Key) : Int := keyC (ucoll a.l b.l) a.h b.h

/-- Keys of no value, or of one. -/
def Few (k : Key) : Prop := k.l.length ≤ 1

theorem ucoll_chain : ∀ (a b c : List VV), a.length ≤ 1 → b.length ≤ 1 → c.length ≤ 1 → ucoll a b ≤ 0 → ucoll b c ≤ 0 → ucoll a c ≤ 0 ∧ (ucoll a c = 0 → ucoll a b = 0 ∧ ucoll b c = 0)
  | [], [], [], _, _, _ => fun _ _ => ⟨Int.le_refl _, fun _ => ⟨rfl, rfl⟩⟩
  | [], [], _ :: _, _, _, _ => fun _ _ => ⟨by simp [ucoll], fun h => by simp [ucoll] at h⟩
  | [], _ :: _, [], _, _, _ => fun _ h => by simp [ucoll] at h
  | [], _ :: _, _ :: _, _, _, _ => fun _ _ => ⟨by simp [ucoll], fun h => by simp [ucoll] at h⟩
  | _ :: _, [], _, _, _, _ => fun h _ => by simp [ucoll] at h
  | _ :: _, _ :: _, [], _, _, _ => fun _ h => by simp [ucoll] at h
  | [x], [y], [z], _, _, _ => lexV_chain [x] [y] [z] rfl rfl
  | _ :: _ :: _, _, _, h, _, _ => by simp at h
  | _, _ :: _ :: _, _, _, h, _ => by simp at h
  | _, _, _ :: _ :: _, _, _, h => by simp at h

theorem Key.u_next {a b c : Key} (ha : Few a) (hb : Few b) (hc : Few c) (h1 : a.u b ≤ 0) (h2 : b.u c < 0) : a.u c < 0 := by
  have h := ucoll_chain a.l b.l c.l ha hb hc
  unfold Key.u keyC at *
  generalize ucoll a.l b.l = p at *
  generalize ucoll b.l c.l = q at *
  generalize ucoll a.l c.l = r at *
  split at h1 <;> split at h2 <;> split <;> omega

/-- Keys in a unique index's order. -/
def SrtU (out : List Key) : Prop := out.Pairwise fun a b => a.u b < 0

def signU (r : Key) (out : List Key) : Nat → Int := fun j => match out[j]? with
  | some x => r.u x
  | none => 0
theorem signU_at {r x : Key} {out : List Key} {j : Nat} (h : out[j]? = some x) : signU r out j = r.u x := by unfold signU; rw [h]

theorem place_u {r : Key} (hr : Few r) {out : List Key} (hs : SrtU out) (hl : ∀ x ∈ out, Few x) : ∃ g ok, Pos (signU r out) out.length g ok := by
  have hg : ∀ (j : Nat) (h : j < out.length), signU r out j = r.u out[j] := fun j h => signU_at (List.getElem?_eq_getElem h)
  exact pos_exists (signU r out) out.length (fun i j h1 h2 h3 => by
    have hi : i < out.length := by omega
    rw [hg i hi] at h3
    rw [hg j h2]
    exact Key.u_next hr (hl _ (List.getElem_mem hi)) (hl _ (List.getElem_mem h2)) h3 (List.pairwise_iff_getElem.1 hs i j hi h2 h1))

theorem ucoll_anti (l m : List VV) : ucoll m l = - ucoll l m := by
  cases l <;> cases m
  · rfl
  · rfl
  · rfl
  · exact lexV_anti _ _
theorem Key.u_anti (a b : Key) : b.u a = - a.u b := by
  unfold Key.u keyC
  rw [ucoll_anti a.l b.l]
  split <;> split <;> omega

/-- What is put at its place leaves the order. -/
theorem srt_put {r : Key} {out : List Key} {g : Nat} (hs : SrtU out) (hp : Pos (signU r out) out.length g false) : SrtU (out.take g ++ r :: out.drop g) := by
  unfold SrtU at *
  have h0 : (out.take g ++ out.drop g).Pairwise fun a b => a.u b < 0 := by rw [List.take_append_drop]; exact hs
  rw [List.pairwise_append] at h0
  refine List.pairwise_append.2 ⟨h0.1, List.pairwise_cons.2 ⟨fun b hb => ?_, h0.2.1⟩, fun a ha b hb => ?_⟩
  · obtain ⟨j, hj, rfl⟩ := List.getElem_of_mem hb
    rw [List.length_drop] at hj
    have hat : out[g + j]? = some (out.drop g)[j] := by rw [List.getElem_drop]; exact List.getElem?_eq_getElem (by omega)
    rw [← signU_at hat]
    rcases Nat.eq_zero_or_pos j with rfl | h
    · exact hp.miss rfl (by omega)
    · exact hp.behind _ (by omega) (by omega)
  · rcases List.mem_cons.1 hb with rfl | hb
    · obtain ⟨j, hj, hx⟩ := mem_take_at ha
      have := hp.ahead j hj
      rw [signU_at hx] at this
      rw [Key.u_anti]
      omega
    · exact h0.2.2 a ha b hb

end Go.Proofs.YtffgkocokkhahaaDoor
