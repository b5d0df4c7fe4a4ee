/-
  ql.limOffExpr, impl.LimOff of 1, of strings, bools, blobs. PRINTED BY wip/tpl/gen_lim.py.
-/
import Derived.Test.YtamekjbdpcflfaaDoorErr
namespace Go.Proofs.YtamekjbdpcflfaaDoor
open Go.RowKit

set_option maxRecDepth 100000 in
set_option maxHeartbeats 1000000 in
theorem lim_one (w : World) : Calls Tryd.prog 38 #[.iface 2 (.int .i64 1)] w fun e w' => e = .returned (.tuple #[.int .u64 1, .nilIface]) ∧ w = w' := by
  go_enter Tryd.func38, Tryd.ntmps38
  go_wp2
  go_ret2
  exact ⟨rfl, rfl⟩

/-- 0 and an error. -/
def LimPost (w : World) (e : Ending) (w' : World) : Prop := ∃ p, e = .returned (.tuple #[.int .u64 0, .iface 90 (.pointer (some p))]) ∧ Er w' p ∧ Below w.heap.size w w'

set_option maxRecDepth 100000 in
set_option maxHeartbeats 1000000 in
theorem lim_str (z : Value) (w : World) : Calls Tryd.prog 38 #[.iface 9 z] w (LimPost w) := by
  go_enter Tryd.func38, Tryd.ntmps38
  go_wp2_with (go_at_call 52; refine (errNew_er _ _).mono ?_; rintro e w1 ⟨p, rfl, he, hb1⟩; have HE := Lib.hid he; clear he)
  go_ret2
  exact ⟨p, rfl, HE.out, by repeat (first | exact Below.refl _ _ | exact (Below.refl _ _).alloc (Nat.le_refl _) _ | refine Below.drew ?_ | refine below_drewN ?_ _ | refine up_below ?_ (Nat.le_refl _) (by assumption))⟩

set_option maxRecDepth 100000 in
set_option maxHeartbeats 1000000 in
theorem lim_bool (z : Value) (w : World) : Calls Tryd.prog 38 #[.iface 4 z] w (LimPost w) := by
  go_enter Tryd.func38, Tryd.ntmps38
  go_wp2_with (go_at_call 52; refine (errNew_er _ _).mono ?_; rintro e w1 ⟨p, rfl, he, hb1⟩; have HE := Lib.hid he; clear he)
  go_ret2
  exact ⟨p, rfl, HE.out, by repeat (first | exact Below.refl _ _ | exact (Below.refl _ _).alloc (Nat.le_refl _) _ | refine Below.drew ?_ | refine below_drewN ?_ _ | refine up_below ?_ (Nat.le_refl _) (by assumption))⟩

set_option maxRecDepth 100000 in
set_option maxHeartbeats 1000000 in
theorem lim_blob (z : Value) (w : World) : Calls Tryd.prog 38 #[.iface 67 z] w (LimPost w) := by
  go_enter Tryd.func38, Tryd.ntmps38
  go_wp2_with (go_at_call 52; refine (errNew_er _ _).mono ?_; rintro e w1 ⟨p, rfl, he, hb1⟩; have HE := Lib.hid he; clear he)
  go_ret2
  exact ⟨p, rfl, HE.out, by repeat (first | exact Below.refl _ _ | exact (Below.refl _ _).alloc (Nat.le_refl _) _ | refine Below.drew ?_ | refine below_drewN ?_ _ | refine up_below ?_ (Nat.le_refl _) (by assumption))⟩

set_option maxRecDepth 100000 in
set_option maxHeartbeats 1000000 in
theorem zzLim_any (u : Value) (w : World) (R : Value → World → Prop) (H : Hid (Calls Tryd.prog 38 #[u] w fun e w' => ∃ r, e = .returned r ∧ R r w' ∧ Below w.heap.size w w')) (h2 : Hid (∀ r w, R r w → ∃ x y, r = .tuple #[x, y])) :
    Calls Tryd.prog 25 #[u] w fun e w' => ∃ r, e = .returned r ∧ R r w' ∧ Below w.heap.size w w' := by
  go_enter Tryd.func25, Tryd.ntmps25
  go_wp2_with (go_at_call 38; refine H.out.mono ?_; rintro e w1 ⟨r, rfl, hr, hb1⟩; obtain ⟨x, y, rfl⟩ := h2.out r _ hr)
  go_ret2
  exact ⟨_, rfl, hr, by repeat (first | exact Below.refl _ _ | exact (Below.refl _ _).alloc (Nat.le_refl _) _ | refine Below.drew ?_ | refine below_drewN ?_ _ | refine up_below ?_ (Nat.le_refl _) (by assumption))⟩

set_option maxRecDepth 100000 in
set_option maxHeartbeats 1000000 in
theorem number_ok (n : Int) (w : World) : Calls Tryd.prog 24 #[.int .u64 n, .nilIface] w fun e w' => e = .returned (.tuple #[.int .u64 n, .int .i64 0]) ∧ w = w' := by
  go_enter Tryd.func24, Tryd.ntmps24
  go_wp2
  go_ret2
  exact ⟨rfl, rfl⟩

set_option maxRecDepth 100000 in
set_option maxHeartbeats 1000000 in
theorem number_err (n : Int) (p a : Addr) (w : World) (h : Has w a) (hE : Er w p) : Calls Tryd.prog 24 #[.int .u64 n, .iface 90 (.pointer (some p))] w fun e w' => ∃ c : Int, e = .returned (.tuple #[.int .u64 0, .int .i64 c]) ∧ c ≠ 0 ∧ w = w' := by
  have HZ := Lib.hid (zzErr_some a p w h hE)
  clear h hE
  go_enter Tryd.func24, Tryd.ntmps24
  go_wp2_with (go_at_call 37; refine HZ.out.mono ?_; rintro e w1 ⟨c, rfl, hc, rfl⟩; have hc' := Lib.hid hc; clear hc)
  go_ret2
  exact ⟨c, rfl, hc'.out, rfl⟩

set_option maxRecDepth 100000 in
set_option maxHeartbeats 1000000 in
theorem limOff_one (w : World) : Calls Tryd.prog 8 #[.agg #[.string int64S, .int .i64 1, .int .u64 0, .float .f64 0, .string empS]] w fun e w' => e = .returned (.tuple #[.int .u64 1, .int .i64 0]) ∧ Below w.heap.size w w' := by
  have HI := Lib.hid (fun w => in_any int64S 1 0 0 empS ⟨by omega, by omega, by omega, by omega, by omega⟩ (by decide +kernel) w)
  have HS : Hid (∀ y, SVof (Kd.of int64S.toList) 1 0 0 empS y → y = .int .i64 1) := fun y h => by
    rw [show Kd.of int64S.toList = .int .i64 from by decide +kernel] at h
    unfold SVof at h
    rw [if_neg (fun h => by cases h.1)] at h
    exact h
  have HZ := Lib.hid (fun w => zzLim_any (.iface 2 (.int .i64 1)) w (fun r _ => r = .tuple #[.int .u64 1, .nilIface]) ((lim_one w).mono (fun e w' ⟨h1, h2⟩ => ⟨_, h1, rfl, by subst h2; exact Below.refl _ _⟩)) (fun r _ h => ⟨_, _, h⟩))
  go_enter Tryd.func8, Tryd.ntmps8
  go_wp2_with (first | (go_at_call 26; refine (HI.out _).mono ?_; rintro e w1 ⟨v, y, rfl, hrep, hb1, hsv⟩; obtain rfl := HS.out y hsv; obtain rfl : v = _ := hrep; clear hsv; obtain ⟨hc1, hf1⟩ := bcell hb1; have hz1 : w.heap.size < w1.heap.size := (by have := hb1.size; (try simp at this); omega)) | (go_at_call 25; refine (HZ.out _).mono ?_; rintro e w2 ⟨r, rfl, rfl, hb2⟩; obtain ⟨hc2, hf2⟩ := bcell hb2; have hz2 : w.heap.size < w2.heap.size := (by have := hb2.size; (try simp at this); omega)) | (go_at_call 24; refine (number_ok _ _).mono ?_; rintro e w3 ⟨rfl, rfl⟩))
  go_ret2
  exact ⟨rfl, by repeat (first | exact Below.refl _ _ | exact (Below.refl _ _).alloc (Nat.le_refl _) _ | refine Below.drew ?_ | refine below_drewN ?_ _ | refine up_below ?_ (Nat.le_refl _) (by assumption))⟩

/-- Of what is refused. -/
def NoPost (w : World) (e : Ending) (w' : World) : Prop := ∃ c : Int, e = .returned (.tuple #[.int .u64 0, .int .i64 c]) ∧ c ≠ 0 ∧ Below w.heap.size w w'

theorem lim_refused (x : SV) (u : Value) (w : World) (h : Rep w x u) (hx : (∃ b, x = .bool b) ∨ (∃ s, x = .str s) ∨ (∃ l, x = .blob l)) : Calls Tryd.prog 38 #[u] w (LimPost w) := by
  rcases hx with ⟨b, rfl⟩ | ⟨s, rfl⟩ | ⟨l, rfl⟩
  · obtain rfl : u = _ := h
    exact lim_bool _ w
  · obtain rfl : u = _ := h
    exact lim_str _ w
  · obtain ⟨a, cap, rfl, _⟩ := h
    exact lim_blob _ w

set_option maxRecDepth 100000 in
set_option maxHeartbeats 1000000 in
theorem limOff_refused (k : ByteArray) (n u : Int) (f : Nat) (s : ByteArray) (hr : Rng n u f) (hv : validB (Kd.of k.toList) n u f s = true) (hk : Kd.of k.toList = .bool ∨ Kd.of k.toList = .str ∨ Kd.of k.toList = .blob) (a : Addr) (w : World) (hg : Has w a) :
    Calls Tryd.prog 8 #[.agg #[.string k, .int .i64 n, .int .u64 u, .float .f64 f, .string s]] w (NoPost w) := by
  have HI := Lib.hid (fun w => in_any k n u f s hr hv w)
  have HS : Hid (∀ y, SVof (Kd.of k.toList) n u f s y → (∃ b, y = .bool b) ∨ (∃ s, y = .str s) ∨ (∃ l, y = .blob l)) := fun y h => by
    rcases hk with hk | hk | hk <;> rw [hk] at h <;> unfold SVof at h <;> rw [if_neg (fun h => by cases h.1)] at h
    · exact .inl ⟨_, h⟩
    · exact .inr (.inl ⟨_, h⟩)
    · exact .inr (.inr ⟨_, h⟩)
  have HG := Lib.hid hg
  clear hr hv hk hg
  have HZ := Lib.hid (fun x u w (hr : Rep w x u) (hx : (∃ b, x = .bool b) ∨ (∃ s, x = .str s) ∨ (∃ l, x = .blob l)) => zzLim_any u w (fun r w => ∃ p, r = .tuple #[.int .u64 0, .iface 90 (.pointer (some p))] ∧ Er w p) ((lim_refused x u w hr hx).mono (fun e w' ⟨p, h1, h3, h2⟩ => ⟨_, h1, ⟨p, rfl, h3⟩, h2⟩)) (fun r _ h => by obtain ⟨p, rfl, _⟩ := h; exact ⟨_, _, rfl⟩))
  go_enter Tryd.func8, Tryd.ntmps8
  go_wp2_with (first | (go_at_call 26; refine (HI.out _).mono ?_; rintro e w1 ⟨v, y, rfl, hrep, hb1, hsv⟩; have hR := Lib.hid hrep; have hV := Lib.hid hsv; clear hrep hsv; obtain ⟨hc1, hf1⟩ := bcell hb1; have hz1 : w.heap.size < w1.heap.size := (by have := hb1.size; (try simp at this); omega)) | (go_at_call 25; refine (HZ.out y v _ hR.out (HS.out y hV.out)).mono ?_; rintro e w2 ⟨r, rfl, ⟨p, rfl, he⟩, hb2⟩; have HE := Lib.hid he; clear he; obtain ⟨hc2, hf2⟩ := bcell hb2; have hz2 : w.heap.size < w2.heap.size := (by have := hb2.size; (try simp at this); omega)) | (go_at_call 24; refine (number_err _ p a _ (HG.out.of (by repeat (first | exact Below.refl _ _ | exact (Below.refl _ _).alloc (Nat.le_refl _) _ | refine Below.drew ?_ | refine below_drewN ?_ _ | refine up_below ?_ (Nat.le_refl _) (by assumption)))) HE.out).mono ?_; rintro e w3 ⟨c, rfl, hc, rfl⟩; have hc' := Lib.hid hc; clear hc))
  go_ret2
  exact ⟨c, rfl, hc'.out, by repeat (first | exact Below.refl _ _ | exact (Below.refl _ _).alloc (Nat.le_refl _) _ | refine Below.drew ?_ | refine below_drewN ?_ _ | refine up_below ?_ (Nat.le_refl _) (by assumption))⟩

end Go.Proofs.YtamekjbdpcflfaaDoor
