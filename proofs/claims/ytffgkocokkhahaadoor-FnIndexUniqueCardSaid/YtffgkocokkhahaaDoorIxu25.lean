/-
  laws.filled: the deeds that put rows into an index. || A row that is not empty, opened. || laws.keeps: an index has what was put into it. || laws.without of one value; which rows a unique index takes, as the law reckons it. || What the walk of laws.FnIndexUnique asks of its callees.
-/
import Derived.Test.YtffgkocokkhahaaDoorIxu24
import Derived.Test.YtffgkocokkhahaaDoorIxu22

/- laws.filled: the deeds that put rows into an index. -/
namespace Go.Proofs.YtffgkocokkhahaaDoor
open Go.RowKit

set_option maxRecDepth 100000 in
set_option maxHeartbeats 3200000 in
theorem filled_any (rows : List RowV) (A : Option Addr) (c : Nat) (n : Int) (w : World) (hl : RowsAt w A rows) (hr : ∀ r ∈ rows, RowRng r) :
    Calls Tryd.prog 12 #[.slice A rows.length c, .int .i64 n] w (FilledP rows n w) := by
  obtain ⟨i0, hi, hz0, hz1, hz2⟩ := info_parts info_ideed
  obtain ⟨len, hlen⟩ : ∃ len, len = rows.length := ⟨_, rfl⟩
  have HL := Lib.hid hl
  have HN := Lib.hid hlen
  have HR := Lib.hid hr
  have HG := Lib.hid (fun (nn : Nat) (hn : n = nn) h1 h2 => good_of hn hr h1 h2)
  unfold FilledP
  rw [← hlen] at HG ⊢
  clear hl hlen hr
  go_enter Tryd.func12, Tryd.ntmps12
  by_cases g1 : 600 < len
  · go_wp2
    go_ret2
    exact .inl ⟨rfl, Below.refl _ _⟩
  by_cases g2 : n < 1
  · go_wp2
    go_ret2
    exact .inl ⟨rfl, Below.refl _ _⟩
  by_cases g3 : 3 < n
  · go_wp2
    go_ret2
    exact .inl ⟨rfl, Below.refl _ _⟩
  go_wp2
  go_loopw [6, 22] (fun out i wr => ∃ k : Nat, k ≤ len ∧ i = .int .i64 k ∧ wr.ownsRow w.heap.size 43 4 out k (flat DeedV.cells ((rows.take k).map RowV.deed)) ∧ Below w.heap.size w wr ∧ (∀ (j : Nat) (r : RowV), j < k → rows[j]? = some r → isKeyB r.us n = true ∧ 1 ≤ r.h) ∧ (∀ (i j : Nat) (a b : RowV), i < j → j < k → rows[i]? = some a → rows[j]? = some b → (a.h == b.h) = false)) (fun _ i _ => len - (intOf i).toNat)
  case atStart => exact ⟨0, by omega, rfl, World.ownsRow_nil _ _ _ _, Below.refl _ _, fun _ _ h => by omega, fun _ _ _ _ _ h => by omega⟩
  case round =>
    obtain ⟨k, hk, rfl, hown, hb, hall, hne⟩ := hrel
    have HO := Lib.hid hown
    have HB := Lib.hid hb
    have HA := Lib.hid hall
    have HD := Lib.hid hne
    have hs := hb.size
    clear hown hall hne
    by_cases hlt : k < len
    · obtain ⟨r, hx'⟩ : ∃ r, rows[k]? = some r := ⟨_, List.getElem?_eq_getElem (by rw [← HN.out]; exact hlt)⟩
      have HX := Lib.hid hx'
      obtain ⟨⟨ad, rfl, hbl, h0, h1⟩, hl⟩ := (HL.out.below hb) k r hx'
      have hrr := (HR.out r (List.mem_of_getElem? hx')).len
      have HK := Lib.hid (isKey_any r.us r.A r.c n wr hl (by unfold maxLen at hrr; omega))
      clear hx' hl hb hrr
      cases hkey : isKeyB r.us n with
      | false =>
        rw [hkey] at HK
        go_wp2_with (go_at_call 7; refine HK.out.mono ?_; rintro e w1 ⟨rfl, hb1⟩)
        go_ret2
        exact .inl ⟨rfl, up_below' HB.out hb1⟩
      | true =>
        rw [hkey] at HK
        by_cases hlo : r.h < 1
        · go_wp2_with (go_at_call 7; refine HK.out.mono ?_; rintro e w1 ⟨rfl, hb1⟩; have k1 := (hb1.cell (by exact hbl)).trans h1)
          go_ret2
          exact .inl ⟨rfl, up_below' HB.out hb1⟩
        · go_wp2_with (go_at_call 7; refine HK.out.mono ?_; rintro e w1 ⟨rfl, hb1⟩; have k0 := (hb1.cell hbl).trans h0; have k1 := (hb1.cell (by exact hbl)).trans h1; have hbl1 := Nat.lt_of_lt_of_le hbl hb1.size; have HB1 := Lib.hid (up_below' HB.out hb1); have HO1 := Lib.hid (own_below HO.out hb1))
          clear h0 h1 hbl hb1
          go_loopw [42] (fun j wi => ∃ q : Nat, q ≤ k ∧ j = .int .i64 q ∧ Below w1.heap.size w1 wi ∧ ∀ (p : Nat) (a : RowV), p < q → rows[p]? = some a → (a.h == r.h) = false) (fun j _ => k - (intOf j).toNat)
          case atStart => exact ⟨0, by omega, rfl, Below.refl _ _, fun _ _ h => by omega⟩
          case round =>
            obtain ⟨q, hq, rfl, hbi, hnq⟩ := hrel
            have HQ := Lib.hid hnq
            have HBI := Lib.hid hbi
            have m0 := (hbi.cell hbl1).trans k0
            have m1 := (hbi.cell (by exact hbl1)).trans k1
            have hblq := Nat.lt_of_lt_of_le hbl1 hbi.size
            clear hnq
            by_cases hqk : q < k
            · obtain ⟨a, ha'⟩ : ∃ a, rows[q]? = some a := ⟨_, List.getElem?_eq_getElem (by rw [← HN.out]; omega)⟩
              obtain ⟨⟨ad2, had, hbl2, _, g1'⟩, _⟩ := (HL.out.below (up_below' HB1.out hbi)) q a ha'
              obtain rfl : ad = ad2 := Option.some.inj had
              have HAQ := Lib.hid ha'
              have p1 : ∀ z : BW wr, z.w.cell? ⟨(ad.add (k * 2)).block, (ad.add (k * 2)).off + 1, none⟩ = some (.int .i64 r.h) := fun z => (z.h.cell (by exact hblq)).trans m1
              have p2 : ∀ z : BW wr, z.w.cell? ⟨(ad.add (q * 2)).block, (ad.add (q * 2)).off + 1, none⟩ = some (.int .i64 a.h) := fun z => (z.h.cell (by exact hbl2)).trans g1'
              have hql : q < len := by omega
              clear ha' had hbi g1' m1
              cases he : (a.h == r.h) with
              | true =>
                go_wp2
                refine wp_region_bw (by kernel_rfl) (by kernel_rfl) ?_
                repeat (go_big_quiet_step ((first | fail)))
                refine wpQuiet_nil ?_
                intro _ hw'
                obtain ⟨pq, hw''⟩ := hw'
                subst hw''
                go_wp2
                go_ret2
                exact .inl ⟨rfl, up_below' (up_below' HB1.out HBI.out) pq.h⟩
              | false =>
                have HE := Lib.hid he
                go_wp2
                refine wp_region_bw (by kernel_rfl) (by kernel_rfl) ?_
                repeat (go_big_quiet_step ((first | fail)))
                refine wpQuiet_nil ?_
                intro _ hw'
                obtain ⟨pq, hw''⟩ := hw'
                subst hw''
                go_wp2
                refine ⟨⟨q + 1, by omega, by push_cast; rfl, up_below' HBI.out pq.h, fun j y hj hy => ?_⟩, by simp [intOf]; omega⟩
                rcases Nat.lt_or_ge j q with h | h
                · exact HQ.out j y h hy
                · obtain rfl : j = q := by omega
                  obtain rfl : y = a := Option.some.inj (hy.symm.trans HAQ.out)
                  exact HE.out
            · have hqe : q = k := by omega
              subst hqe
              have HOI := Lib.hid (own_below HO1.out hbi)
              have HBB := Lib.hid (up_below' HB1.out hbi)
              have hsb := HBB.out.size
              clear hbi
              go_wp2
              go_region_law
                (first
                  | (refine step_append_lies _ (by rfl) _ _ _ (by rfl) w.heap.size 43 i0 _ 4 56 Tryd.underlying39 hi hz0 hz1 hz2 rfl (by omega) _ q (flat DeedV.cells ((rows.take q).map RowV.deed)) (by rfl) (HOI.out.alloc _)
                      ⟨wr.heap.size, 0, none⟩ 1 1 [.string ⟨#[99, 114, 101, 97, 116, 101]⟩, .slice r.A r.us.length r.c, .int .i64 r.h, .int .i64 0] (by rfl) (by rfl) (World.news_of_block (cs := #[.string ⟨#[99, 114, 101, 97, 116, 101]⟩, .slice r.A r.us.length r.c, .int .i64 r.h, .int .i64 0]) (t := 43) (fr := (0, 0)) (heap_new _ _)) (by simp [Value.oneCell'])
                      (by omega) (by simp only [maxLen]; omega) (by omega) (by simp; omega) (wr.heap.size + 1) (by simp) ?_
                     intro gg cap w3 hown3 hgrow hat hlt3
                     have HG3 := Lib.hid hgrow
                     have HO3 := Lib.hid hown3
                     clear hgrow hown3)
                  | fail)
              all_goals
                go_wp2
                refine ⟨⟨q + 1, by omega, by push_cast; rfl, ?_, ?_, fun j y hj hy => ?_, fun i j a b hij hj ha hb => ?_⟩, by simp [intOf]; omega⟩
                · rw [take_snoc HX.out, List.map_append, flat_append]
                  simpa [flat, DeedV.cells, RowV.deed, createS] using HO3.out
                · first
                    | exact HBB.out.trans ((((Chg.refl (fun k => u6.ownBlock = some k) wr).drew.alloc _).next (Chg.of_grown HG3.out) (fun z _ h => h.symm)).below hsb (fun k hk => own_ge HOI.out hk))
                    | exact HBB.out.trans ((((Chg.refl (fun k => u6.ownBlock = some k) wr).alloc _).next (Chg.of_grown HG3.out) (fun z _ h => h.symm)).below hsb (fun k hk => own_ge HOI.out hk))
                · rcases Nat.lt_or_ge j q with h | h
                  · exact HA.out j y h hy
                  · obtain rfl : j = q := by omega
                    obtain rfl : y = r := Option.some.inj (hy.symm.trans HX.out)
                    exact ⟨hkey, hlo⟩
                · rcases Nat.lt_or_ge j q with h | h
                  · exact HD.out i j a b hij h ha hb
                  · obtain rfl : j = q := by omega
                    obtain rfl : b = r := Option.some.inj (hb.symm.trans HX.out)
                    exact HQ.out i a hij ha
    · have hke : k = len := by omega
      subst hke
      obtain ⟨A', c', rfl⟩ := own_form HO.out
      go_wp2
      go_ret2
      have ht : rows.take k = rows := List.take_of_length_le (by rw [← HN.out]; exact Nat.le_refl _)
      have HO2 := HO.out
      rw [ht] at HO2
      exact .inr ⟨A', c', n.toNat, rfl, HO2, HB.out, by omega, by omega, by omega, by omega, HG.out n.toNat (by omega) HA.out HD.out⟩

end Go.Proofs.YtffgkocokkhahaaDoor

/- A row that is not empty, opened. -/
namespace Go.Proofs.YtffgkocokkhahaaDoor
open Go.RowKit

theorem own_some {w : World} {B : Nat} {e : TypeId} {s : Nat} {v : Value} {n : Nat} {xs : List Value} (h : w.ownsRow B e s v n xs) (hn : 0 < n) :
    ∃ g cap cur, v = .slice (some ⟨g, 0, none⟩) n cap ∧ B ≤ g ∧ w.heap[g]? = some (.cells cur e (0, 0)) ∧ n ≤ cap ∧ cap ≤ maxLen ∧ cur.size = cap * s ∧ cur.toList.take (n * s) = xs := by
  rcases h.2 with ⟨_, h0⟩ | h
  · omega
  · exact h

theorem cur_split {cur : Array Value} {n : Nat} {xs : List Value} (h : cur.toList.take n = xs) : cur.toList = xs ++ cur.toList.drop n := by rw [← h, List.take_append_drop]

end Go.Proofs.YtffgkocokkhahaaDoor

/- laws.keeps: an index has what was put into it. -/
namespace Go.Proofs.YtffgkocokkhahaaDoor
open Go.RowKit

/-- The answers to so many deeds, and what is found from an end, in memory. -/
theorem ans_cell {w : World} {n g : Nat} {cur : Array Value} {e : TypeId} {av : List AnsV} (hh : w.heap[g]? = some (.cells cur e (0, 0))) (ht : cur.toList.take (n * 3) = flat AnsV.cells av) {j : Nat} {a : AnsV} (ha : av[j]? = some a) :
    w.cell? ⟨g, j * 3, none⟩ = some (.int .i64 0) ∧ w.cell? ⟨g, j * 3 + 1, none⟩ = some (.bool false) ∧ w.cell? ⟨g, j * 3 + 2, none⟩ = some a.R := by
  have h : ∀ (i : Nat) (v : Value), i < 3 → a.cells[i]? = some v → w.cell? ⟨g, j * 3 + i, none⟩ = some v := fun i v hi hv => by
    have h1 := flat_at AnsV.cells 3 AnsV.three av j a i v ha hi hv
    have h2 := (List.getElem?_eq_some_iff.1 h1).1
    rw [cell_of_heap hh, ← Array.getElem?_toList, cur_split ht, List.getElem?_append_left h2]
    exact h1
  exact ⟨h 0 _ (by omega) rfl, h 1 _ (by omega) rfl, h 2 _ (by omega) rfl⟩

/-- A row of an answer. -/
theorem row_cell {B : Nat} {w : World} {ks : List Key} {R : Value} {rs : List RowV} (h : AnsRows B w ks R rs) {k : Key} (hk : ks = [k]) : ∃ g cap, R = .slice (some ⟨g, 0, none⟩) 1 cap ∧ w.cell? ⟨g, 1, none⟩ = some (.int .i64 k.h) := by
  subst hk
  obtain ⟨g, cap, cur, rfl, _, hh, _, _, _, ht⟩ := own_some h.own (by simp)
  obtain ⟨r, hr⟩ : ∃ r, rs = [r] := by
    have := h.len
    match rs, this with
    | [r], _ => exact ⟨r, rfl⟩
  subst hr
  refine ⟨g, cap, rfl, ?_⟩
  have h1 := flat_at RowV.cells 2 RowV.two [r] 0 r 1 _ rfl (by omega) rfl
  have h2 := (List.getElem?_eq_some_iff.1 h1).1
  rw [cell_of_heap hh, ← Array.getElem?_toList, cur_split ht, List.getElem?_append_left h2, h1, (h.rows 0 k r rfl rfl).h]
  rfl

def keepsRow (b : Nat) : RowV := ⟨some ⟨b, 0, none⟩, 1, 7, [numV 1]⟩

theorem keeps_good (b : Nat) : RowsGood [keepsRow b] 1 := by
  refine ⟨⟨fun x hx => ?_, fun i j a c hij ha hc => ?_⟩, fun r hr => ?_, fun r hr => ?_, fun r hr => ?_⟩
  · obtain rfl : x = (keepsRow b).key := by simpa using hx
    rfl
  · have h1 := (List.getElem?_eq_some_iff.1 hc).1
    simp at h1
    omega
  all_goals
    obtain rfl := List.mem_singleton.1 hr
  · exact numV_conc.1
  · show (1 : Int) ≤ 7
    decide
  · show (7 : Int) ≤ 9223372036854775807
    decide

def KeepsP (W : World) (y : Ending) (w' : World) : Prop :=
  ∃ g cap g5 cap5, y = .returned (.slice (some ⟨g, 0, none⟩) 2 cap) ∧ w'.cell? ⟨g, 0, none⟩ = some (.int .i64 0) ∧ w'.cell? ⟨g, 3, none⟩ = some (.int .i64 0) ∧ w'.cell? ⟨g, 5, none⟩ = some (.slice (some ⟨g5, 0, none⟩) 1 cap5) ∧ w'.cell? ⟨g5, 1, none⟩ = some (.int .i64 7) ∧ Below W.heap.size W w'

theorem keeps_index {W : World} {b : Nat} {E : Value} (hE : HasEof W E) (hA : LAt W (some ⟨b, 0, none⟩) [numV 1]) {t : TypeId} {fr : Nat × Nat} {g : Nat} (hg : W.heap[g]? = some (.cells #[.string ⟨#[99, 114, 101, 97, 116, 101]⟩, .slice (some ⟨b, 0, none⟩) 1 1, .int .i64 7, .int .i64 0, .string ⟨#[102, 105, 114, 115, 116]⟩, .slice none 0 0, .int .i64 0, .int .i64 1] t fr)) :
    Calls Tryd.prog 14 #[.bool false, .slice (some ⟨g, 0, none⟩) 2 2] W (KeepsP W) := by
  have hd : DeedsAt W (some ⟨g, 0, none⟩) ([keepsRow b].map RowV.deed ++ [true].map (endDeed 1)) := by
    refine deeds_reads (n := 2) ⟨rfl, fun _ => ⟨_, rfl, lt_of_heap hg, fun j u hu => World.news_of_block hg j u hu⟩⟩ rfl (fun d hd => ?_)
    rcases List.mem_append.1 hd with h | h
    · obtain rfl := List.mem_singleton.1 h
      exact hA
    · obtain rfl := List.mem_singleton.1 h
      exact fun i x hx => by simp [endDeed] at hx
  refine (index_any (ks := [(keepsRow b).key]) (tl := [true]) (c := 2) rfl (keeps_good b) (by omega) (by omega) (by simp) (by simp) (N := 1) (by simp) (by omega) hE hd).mono ?_
  rintro y w' ⟨A, c, av, rfl, hown, hlen, hans, hb⟩
  obtain ⟨g, cap, cur, e1, _, hh, _, _, _, ht⟩ := own_some hown (by simp)
  have hA' : A = some ⟨g, 0, none⟩ := by injection e1
  subst hA'
  obtain ⟨a0, a1, rfl⟩ : ∃ a0 a1, av = [a0, a1] := by
    match av, hlen with
    | [a0, a1], _ => exact ⟨a0, a1, rfl⟩
  have c0 := ans_cell (n := 2) hh ht (j := 0) (a := a0) rfl
  have c1 := ans_cell (n := 2) hh ht (j := 1) (a := a1) rfl
  have hr := hans.rows 0 true a1 rfl rfl
  obtain ⟨g5, cap5, e5, h5⟩ := row_cell hr (k := (keepsRow b).key) rfl
  rw [e5] at c1
  exact ⟨g, c, g5, cap5, rfl, c0.1, c1.1, c1.2.2, h5, hb⟩

theorem keeps_call (w1 : World) {E : Value} (hE : HasEof w1 E) : Calls Tryd.prog 14 #[.bool false, .slice (some ⟨w1.heap.size + 1, 0, none⟩) 2 2] ((w1.alloc (.cells #[.string int64S, .int .i64 1, .int .u64 0, .float .f64 0, .string empS] 58)).alloc (.cells #[.string ⟨#[99, 114, 101, 97, 116, 101]⟩, .slice (some ⟨w1.heap.size, 0, none⟩) 1 1, .int .i64 7, .int .i64 0, .string ⟨#[102, 105, 114, 115, 116]⟩, .slice none 0 0, .int .i64 0, .int .i64 1] 43)) (KeepsP ((w1.alloc (.cells #[.string int64S, .int .i64 1, .int .u64 0, .float .f64 0, .string empS] 58)).alloc (.cells #[.string ⟨#[99, 114, 101, 97, 116, 101]⟩, .slice (some ⟨w1.heap.size, 0, none⟩) 1 1, .int .i64 7, .int .i64 0, .string ⟨#[102, 105, 114, 115, 116]⟩, .slice none 0 0, .int .i64 0, .int .i64 1] 43))) := by
  obtain ⟨W0, hW0⟩ : ∃ W0, W0 = w1.alloc (.cells #[.string int64S, .int .i64 1, .int .u64 0, .float .f64 0, .string empS] 58) := ⟨_, rfl⟩
  have hl : LAt W0 (some ⟨w1.heap.size, 0, none⟩) [numV 1] := by rw [hW0]; exact lat_new w1 (numV 1) _
  have hs : W0.heap.size = w1.heap.size + 1 := by rw [hW0]; simp
  have hb : Below w1.heap.size w1 W0 := by rw [hW0]; exact (Below.refl _ _).alloc (Nat.le_refl _) _
  rw [← hW0, ← hs]
  exact keeps_index ((hE.below hb).below ((Below.refl _ _).alloc (Nat.le_refl _) _)) (hl.below ((Below.refl _ _).alloc (Nat.le_refl _) _)) (heap_new W0 _)

set_option maxRecDepth 100000 in
set_option maxHeartbeats 1600000 in
theorem keeps_any (w : World) {E : Value} (hE : HasEof w E) : Calls Tryd.prog 13 #[] w fun e w' => e = .returned (.bool true) ∧ Below w.heap.size w w' := by
  have HE := Lib.hid hE
  clear hE
  go_enter Tryd.func13, Tryd.ntmps13
  go_wp2_with (first
    | (go_at_call 18; refine (num_any _ _).mono ?_; rintro e w1 ⟨rfl, hb1⟩; have HB1 := Lib.hid hb1; clear hb1
       have HK := Lib.hid (keeps_call w1 (HE.out.below HB1.out)))
    | (go_at_call 14
       refine HK.out.mono ?_
       rintro y w2 ⟨g, cap, g5, cap5, rfl, c0, c3, c5, d1, hb2⟩
       have HB2 := Lib.hid hb2
       clear hb2))
  go_ret
  exact ⟨rfl, up_below' (up_below' HB1.out (below_al2 w1 _ _)) HB2.out⟩

end Go.Proofs.YtffgkocokkhahaaDoor

/- laws.without of one value; which rows a unique index takes, as the law reckons it. -/
namespace Go.Proofs.YtffgkocokkhahaaDoor
open Go.RowKit

set_option maxRecDepth 100000 in
set_option maxHeartbeats 1600000 in
theorem without_nul (u : VV) (A : Option Addr) (c : Nat) (w : World) (hl : LAt w A [u]) (hn : isNul u = true) : Calls Tryd.prog 15 #[.slice A 1 c] w fun y w' => y = .returned (.slice none 0 0) ∧ Below w.heap.size w w' := by
  obtain ⟨ad, rfl, hb, h0, h1, h2, h3, h4⟩ := hl 0 u rfl
  have hk : u.k.toList = [] := by unfold isNul at hn; simpa using hn
  have e0 : ad.add (0 * 5) = ad := by simp [Addr.add]
  have e1 : ad.add 0 = ad := by simp [Addr.add]
  rw [e0] at hb h0 h1 h2 h3 h4
  clear hl hn e0
  go_enter Tryd.func15, Tryd.ntmps15
  go_wp2
  refine wp_loop_rounds 2 ?_
  rw [rounds_succ]
  go_wp2
  rw [rounds_succ]
  go_wp2
  go_ret
  exact ⟨rfl, Below.refl _ _⟩

set_option maxRecDepth 100000 in
set_option maxHeartbeats 1600000 in
theorem without_val (u : VV) (A : Option Addr) (c : Nat) (w : World) (hl : LAt w A [u]) (hn : isNul u = false) : Calls Tryd.prog 15 #[.slice A 1 c] w fun y w' => (∃ A' c', y = .returned (.slice A' 1 c')) ∧ Below w.heap.size w w' := by
  obtain ⟨i0, hi, hz0, hz1, hz2⟩ := info_parts info_value
  obtain ⟨ad, rfl, hb, h0, h1, h2, h3, h4⟩ := hl 0 u rfl
  have hk : u.k.toList.isEmpty = false := by
    unfold isNul at hn
    cases h : u.k.toList with
    | nil => rw [h] at hn; cases hn
    | cons a l => rfl
  have e0 : ad.add (0 * 5) = ad := by simp [Addr.add]
  have e1 : ad.add 0 = ad := by simp [Addr.add]
  rw [e0] at hb h0 h1 h2 h3 h4
  clear hl hn e0
  go_enter Tryd.func15, Tryd.ntmps15
  go_wp2
  refine wp_loop_rounds 2 ?_
  rw [rounds_succ]
  go_wp2_with (first
    | (at_builtin
       refine wpList_append_any _ rfl (.tmp 16) (.tmp 21) _ rfl w.heap.size 58 i0 _ 5 56 Tryd.underlying25 hi hz0 hz1 hz2 rfl (by omega) _ 0 [] rfl
         (World.ownsRow_nil _ _ _ _) (w.heap.size + 1) (some ⟨w.heap.size, 0, none⟩) 1 1 u.cells rfl (reads_one _ _ _) (fun v hv => by simp [VV.cells] at hv; rcases hv with rfl | rfl | rfl | rfl | rfl <;> rfl) (by simp only [maxLen]; omega) (by omega) (by simp) ?_
       intro v2 w2 hown2 hg2 _
       have HG2 := Lib.hid hg2
       obtain ⟨A2, c2, rfl⟩ := own_form hown2
       clear hown2 hg2))
  rw [rounds_succ]
  go_wp2
  go_ret
  refine ⟨⟨A2, c2, rfl⟩, ?_⟩
  exact (((Chg.refl (fun z => (Value.slice none 0 0).ownBlock = some z) w).alloc _).next (Chg.of_grown HG2.out) (fun z _ h => h.symm)).below (Nat.le_refl _) (fun z hz => by cases hz)

/-- Whether values are among those of some rows. -/
def thereB (acc : List RowV) (r : RowV) : Bool := acc.any fun q => collV q.us r.us == 0

theorem nul_sv {u : VV} (hc : u.conc = true) : isNul u = true ↔ u.sv = .null := by
  constructor
  · intro hn
    have hk : u.k.toList = [] := by unfold isNul at hn; simpa using hn
    unfold VV.sv
    rw [hk]
    rfl
  · intro e
    have hk : Kd.of u.k.toList = .null := by
      unfold VV.sv at e
      cases hd : Kd.of u.k.toList with
      | null => rfl
      | other =>
        have hv : validB (Kd.of u.k.toList) u.n u.u u.f u.s = true := conc_valid hc
        rw [hd] at hv
        simp [validB] at hv
      | _ => rw [hd] at e; simp [toSV] at e
    have hl := Kd.of_lit _ hk (by simp)
    unfold isNul
    rw [hl]
    rfl

theorem lex_null {a b : SV} (ha : a = .null) (hb : b ≠ .null) : a.lex b ≠ 0 := by
  subst ha
  unfold SV.lex
  have hr : SV.rank .null < b.rank := by
    cases b with
    | null => exact absurd rfl hb
    | int k n => cases k <;> simp [SV.rank, kindRank]
    | _ => simp [SV.rank]
  rw [if_pos hr]
  decide

/-- For a row that is not NULL: it is taken where no row has its values. -/
theorem accepts_val {rows acc : List RowV} {r : RowV} (hg : RowsGood rows 1) (hr : r ∈ rows) (ha : ∀ q ∈ acc, q ∈ rows) (hn : rowNul r = false) : accepts acc r = !thereB acc r := by
  unfold accepts thereB
  rw [hn, Bool.false_or]
  congr 1
  have hpt : ∀ q ∈ acc, ((uKey r).u (uKey q) == 0) = (collV q.us r.us == 0) := by
    intro q hq
    have hq' := ha q hq
    have l1 := hg.len hr
    have l2 := hg.len hq'
    rw [uKey_val hn]
    rw [collV_lex q.us r.us (hg.conc q hq').plain (hg.conc r hr).plain]
    match hu : r.us, hv : q.us, l1, l2 with
    | [u], [v], _, _ =>
      have cu := (hg.conc r hr 0 u (by rw [hu]; rfl)).1
      have cv := (hg.conc q hq' 0 v (by rw [hv]; rfl)).1
      have nu : isNul u = false := by unfold rowNul at hn; rw [hu] at hn; exact hn
      cases hnq : rowNul q with
      | true =>
        rw [uKey_nul hnq]
        have nv : isNul v = true := by unfold rowNul at hnq; rw [hv] at hnq; exact hnq
        have h1 : lexV [v] [u] ≠ 0 := by
          have h2 := lex_null ((nul_sv cv).1 nv) (fun e => by rw [(nul_sv cu).2 e] at nu; cases nu)
          unfold lexV
          rw [if_neg h2]
          exact h2
        have h3 : (lexV [v] [u] == 0) = false := by simpa using h1
        rw [h3]
        simp [Key.u, keyC, ucoll]
      | false =>
        rw [uKey_val hnq, hv]
        have h1 : lexV [v] [u] = - lexV [u] [v] := lexV_anti _ _
        rw [show Key.u ⟨[u], 0⟩ ⟨[v], 0⟩ = keyC (lexV [u] [v]) 0 0 from rfl]
        unfold keyC
        rw [h1]
        by_cases h0 : lexV [u] [v] = 0
        · simp [h0]
        · rw [if_neg h0]
          have h2 : (lexV [u] [v] == 0) = false := by simpa using h0
          have h3 : (-lexV [u] [v] == 0) = false := by simp; omega
          rw [h2, h3]
  clear hr hn
  induction acc with
  | nil => rfl
  | cons q acc ih =>
    rw [List.any_cons, List.any_cons, hpt q (by simp), ih (fun q hq => ha q (by simp [hq])) (fun q hq => hpt q (by simp [hq]))]

end Go.Proofs.YtffgkocokkhahaaDoor

/- What the walk of laws.FnIndexUnique asks of its callees. -/
namespace Go.Proofs.YtffgkocokkhahaaDoor
open Go.RowKit

def inCells (q : RowV) : List Value := [.slice q.A q.us.length q.c]
theorem inCells_one (q : RowV) : (inCells q).length = 1 := rfl

theorem info_vals : (Tryd.prog.info? 25).map (fun i => (i.zero, i.size, i.bytes)) = some (some (.slice none 0 0), 1, 24) := by kernel_rfl

theorem in_cell {w : World} {B : Nat} {e : TypeId} {A : Option Addr} {n c : Nat} {acc : List RowV} (h : w.ownsRow B e 1 (.slice A n c) n (flat inCells acc)) (hn : acc.length = n) {p : Nat} {q : RowV} (hq : acc[p]? = some q) :
    ∃ ad, A = some ad ∧ (ad.add p).block < w.heap.size ∧ w.cell? (ad.add p) = some (.slice q.A q.us.length q.c) := by
  have hp := (List.getElem?_eq_some_iff.1 hq).1
  obtain ⟨ad, rfl, hlt, hc⟩ := (Reads.of_own h).2 (by omega)
  have h1 := flat_at inCells 1 inCells_one acc p q 0 _ hq (by omega) rfl
  refine ⟨ad, rfl, by rw [block_add]; exact hlt, ?_⟩
  have := hc _ _ h1
  simpa using this

theorem acceptL_len (l : List RowV) : (acceptL l).length ≤ l.length := by
  have h : ∀ (l acc : List RowV), (l.foldl (fun acc r => if accepts acc r then acc ++ [r] else acc) acc).length ≤ acc.length + l.length := by
    intro l
    induction l with
    | nil => intro acc; simp
    | cons a l ih =>
      intro acc
      rw [List.foldl_cons]
      have h1 := ih (if accepts acc a then acc ++ [a] else acc)
      have h2 : (if accepts acc a then acc ++ [a] else acc).length ≤ acc.length + 1 := by split <;> simp
      rw [List.length_cons]
      omega
  have h1 := h l []
  simpa [acceptL] using h1

theorem reads_first (w : World) (N : Int) (t : TypeId) : Reads (w.alloc (.cells #[.string ⟨#[102, 105, 114, 115, 116]⟩, .slice none 0 0, .int .i64 0, .int .i64 N] t)) (w.heap.size + 1) 4 (some ⟨w.heap.size, 0, none⟩) 1
    [.string ⟨#[102, 105, 114, 115, 116]⟩, .slice none 0 0, .int .i64 0, .int .i64 N] :=
  ⟨rfl, fun _ => ⟨_, rfl, Nat.lt_succ_self _, fun j u hu => World.news_of_block (heap_new w _) j u hu⟩⟩

theorem law_call_u {rows : List RowV} {len q c3 : Nat} {A3 : Option Addr} {w3 : World} {B : Nat} {E : Value} (hlen : len = rows.length) (hq : q = len + 1) (hg : RowsGood rows 1) (h600 : len ≤ 600) (hE : HasEof w3 E) (hL : ∀ r ∈ rows, LAt w3 r.A r.us)
    (hown : w3.ownsRow B 43 4 (.slice A3 (len + 1) c3) (len + 1) (flat DeedV.cells (rows.map RowV.deed) ++ [.string ⟨#[102, 105, 114, 115, 116]⟩, .slice none 0 0, .int .i64 0, .int .i64 q])) :
    Calls Tryd.prog 14 #[.bool true, .slice A3 (len + 1) c3] w3 (IndexPU rows w3) := by
  have hd : DeedsAt w3 A3 (rows.map RowV.deed ++ [true].map (endDeed q)) := by
    refine deeds_reads (n := len + 1) ?_ (by simp [hlen]) (fun d hd => ?_)
    · rw [flat_append]
      exact Reads.of_own hown
    · rcases List.mem_append.1 hd with h | h
      · obtain ⟨r, hr, rfl⟩ := List.mem_map.1 h
        exact hL r hr
      · obtain ⟨b, _, rfl⟩ := List.mem_map.1 h
        exact fun i x hx => by simp [endDeed] at hx
  have h := index_any_u (c := c3) hg (by omega) (N := q) (by omega) (by omega) hE hd
  rw [← hlen] at h
  exact h

/-- What impl.Index has answered. -/
structure UniRead (rows : List RowV) (len g mm : Nat) (A1 : Option Addr) (c1 : Nat) (ks ks' : List Key) (rs : List RowV) (w w' : World) : Prop where
  err : ∀ (j : Nat) (r : RowV), rows[j]? = some r → w'.cell? ⟨g, j * 3, none⟩ = some (.int .i64 (if accepts (acceptL (rows.take j)) r then 0 else 2))
  a0 : w'.cell? ⟨g, len * 3, none⟩ = some (.int .i64 0)
  a1 : w'.cell? ⟨g, len * 3 + 1, none⟩ = some (.bool false)
  a2 : w'.cell? ⟨g, len * 3 + 2, none⟩ = some (.slice A1 mm c1)
  lt : g < w'.heap.size
  cnt : mm = (acceptL rows).length
  srt : SrtU ks
  keys : ∀ k ∈ ks, ∃ q ∈ rows, k = uKey q
  out : ks'.map Key.l = ks.map Key.l
  found : AnsRows w.heap.size w' ks' (.slice A1 mm c1) rs

theorem index_read_u {rows : List RowV} {len : Nat} (hlen : len = rows.length) {w : World} {y : Ending} {w' : World} (h : IndexPU rows w y w') :
    ∃ g cap mm A1 c1 ks ks' rs, y = .returned (.slice (some ⟨g, 0, none⟩) (len + 1) cap) ∧ UniRead rows len g mm A1 c1 ks ks' rs w w' ∧ Below w.heap.size w w' := by
  subst hlen
  obtain ⟨A, c, av, rfl, hown, hlen, hans, hb⟩ := h
  obtain ⟨g, cap, cur, e1, _, hh, _, _, _, ht⟩ := own_some hown (by simp)
  have hA' : A = some ⟨g, 0, none⟩ := by injection e1
  subst hA'
  have hcell : ∀ (j : Nat) (a : AnsU), av[j]? = some a → w'.cell? ⟨g, j * 3, none⟩ = some (.int .i64 a.err) ∧ w'.cell? ⟨g, j * 3 + 1, none⟩ = some (.bool false) ∧ w'.cell? ⟨g, j * 3 + 2, none⟩ = some a.R := fun j a ha => by
    have h : ∀ (i : Nat) (v : Value), i < 3 → a.cells[i]? = some v → w'.cell? ⟨g, j * 3 + i, none⟩ = some v := fun i v hi hv => by
      have h1 := flat_at AnsU.cells 3 AnsU.three av j a i v ha hi hv
      have h2 := (List.getElem?_eq_some_iff.1 h1).1
      rw [cell_of_heap hh, ← Array.getElem?_toList, cur_split ht, List.getElem?_append_left h2]
      exact h1
    exact ⟨h 0 _ (by omega) rfl, h 1 _ (by omega) rfl, h 2 _ (by omega) rfl⟩
  have hlt : rows.length < av.length := by omega
  have ha := List.getElem?_eq_getElem hlt
  obtain ⟨he0, ks, ks', hs, hk, hl, ho, hr⟩ := hans.last _ ha
  obtain ⟨A1, k1, e1⟩ := own_form hr.own
  have hcl := hcell _ _ ha
  have e2 : av[rows.length].R = .slice A1 ks'.length k1 := e1
  have hkl : ks'.length = ks.length := by have := congrArg List.length ho; simpa using this
  rw [he0, e2] at hcl
  rw [e1] at hr
  refine ⟨g, c, ks'.length, A1, k1, ks, ks', _, rfl, ⟨fun j r hj => ?_, hcl.1, hcl.2.1, hcl.2.2, lt_of_heap hh, by rw [hkl, hl], hs, hk, ho, hr⟩, hb⟩
  have hj2 : j < av.length := by have := (List.getElem?_eq_some_iff.1 hj).1; omega
  have hej := hans.err j _ r (List.getElem?_eq_getElem hj2) hj
  have := (hcell j _ (List.getElem?_eq_getElem hj2)).1
  rw [hej] at this
  exact this

/-- What comes out next to each other: no value, or values that ascend. -/
theorem uni_next {rows rs : List RowV} {ks ks' : List Key} {B : Nat} {R : Value} {w : World} (hg : RowsGood rows 1) (hs : SrtU ks) (hk : ∀ k ∈ ks, ∃ q ∈ rows, k = uKey q) (ho : ks'.map Key.l = ks.map Key.l) (hr : AnsRows B w ks' R rs) {j : Nat} {p q : RowV} (hp : rs[j]? = some p) (hq : rs[j + 1]? = some q) :
    p.us.length = 0 ∨ (p.us.length = 1 ∧ q.us.length = 1 ∧ ConcL p.us ∧ ConcL q.us ∧ collV p.us q.us < 0) := by
  have hjl := (List.getElem?_eq_some_iff.1 hp).1
  have hql := (List.getElem?_eq_some_iff.1 hq).1
  have hl' : rs.length = ks'.length := hr.len
  have hkl : ks'.length = ks.length := by have := congrArg List.length ho; simpa using this
  have hat : ∀ (i : Nat) (x : RowV), rs[i]? = some x → ∃ k, ks[i]? = some k ∧ x.us.length = k.l.length ∧ ∀ (n : Nat) (a u : VV), k.l[n]? = some a → x.us[n]? = some u → OutOf a u := fun i x hx => by
    have hi := (List.getElem?_eq_some_iff.1 hx).1
    have hi' : i < ks'.length := by omega
    have h1 := hr.rows i ks'[i] x (List.getElem?_eq_getElem hi') hx
    have h2 : (ks'.map Key.l)[i]? = (ks.map Key.l)[i]? := by rw [ho]
    rw [List.getElem?_map, List.getElem?_map, List.getElem?_eq_getElem hi', List.getElem?_eq_getElem (by omega : i < ks.length)] at h2
    have h3 : ks'[i].l = ks[i].l := by simpa using h2
    refine ⟨ks[i], List.getElem?_eq_getElem (by omega), ?_, ?_⟩
    · rw [← h3]; exact h1.len
    · rw [← h3]; exact h1.outs
  obtain ⟨k1, hk1, l1, o1⟩ := hat j p hp
  obtain ⟨k2, hk2, l2, o2⟩ := hat (j + 1) q hq
  have hj1 := (List.getElem?_eq_some_iff.1 hk1)
  have hj2 := (List.getElem?_eq_some_iff.1 hk2)
  have hlt := List.pairwise_iff_getElem.1 hs j (j + 1) hj1.1 hj2.1 (by omega)
  rw [hj1.2, hj2.2] at hlt
  have hform : ∀ k ∈ ks, k.l = [] ∨ ∃ x, k = ⟨[x], 0⟩ ∧ x.conc = true ∧ Rng x.n x.u x.f := fun k hk' => by
    obtain ⟨r, hr, rfl⟩ := hk k hk'
    cases hn : rowNul r with
    | true => left; rw [uKey_nul hn]
    | false =>
      right
      rw [uKey_val hn]
      have l1 := hg.len hr
      have hc := hg.conc r hr
      match hu : r.us, l1 with
      | [x], _ =>
        rw [hu] at hc
        exact ⟨x, rfl, hc 0 x rfl⟩
  rcases hform k1 (List.mem_of_getElem? hk1) with e1 | ⟨x, rfl, cx, rx⟩
  · left; rw [l1, e1]; rfl
  · right
    rcases hform k2 (List.mem_of_getElem? hk2) with e2 | ⟨y, rfl, cy, ry⟩
    · exfalso
      unfold Key.u at hlt
      rw [e2] at hlt
      simp [ucoll, keyC] at hlt
    · simp only [List.length_cons, List.length_nil] at l1 l2
      obtain ⟨u, hu⟩ : ∃ u, p.us = [u] := by
        match p.us, l1 with
        | [u], _ => exact ⟨u, rfl⟩
      obtain ⟨v, hv⟩ : ∃ v, q.us = [v] := by
        match q.us, l2 with
        | [v], _ => exact ⟨v, rfl⟩
      have ou := out_conc cx rx (o1 0 x u rfl (by rw [hu]; rfl))
      have ov := out_conc cy ry (o2 0 y v rfl (by rw [hv]; rfl))
      have cu : ConcL [u] := fun n z hz => by
        cases n with
        | zero => obtain rfl : u = z := by simpa using hz
                  exact ou.1
        | succ n => simp at hz
      have cv : ConcL [v] := fun n z hz => by
        cases n with
        | zero => obtain rfl : v = z := by simpa using hz
                  exact ov.1
        | succ n => simp at hz
      rw [hu, hv]
      refine ⟨rfl, rfl, cu, cv, ?_⟩
      rw [collV_lex [u] [v] cu.plain cv.plain]
      have h1 : lexV [u] [v] = lexV [x] [y] := by unfold lexV; rw [ou.2, ov.2]
      rw [h1]
      rw [show Key.u ⟨[x], 0⟩ ⟨[y], 0⟩ = keyC (lexV [x] [y]) 0 0 from rfl] at hlt
      unfold keyC at hlt
      split at hlt <;> omega

end Go.Proofs.YtffgkocokkhahaaDoor
