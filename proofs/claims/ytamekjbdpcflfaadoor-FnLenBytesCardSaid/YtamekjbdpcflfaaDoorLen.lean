/-
  ql.builtinLen, impl.Len of a string, of NULL, of an integer. PRINTED BY wip/tpl/gen_len.py.
-/
import Derived.Test.YtamekjbdpcflfaaDoorHp
import Derived.LoopN
namespace Go.Proofs.YtamekjbdpcflfaaDoor
open Go.RowKit

set_option maxRecDepth 100000 in
set_option maxHeartbeats 1000000 in
theorem bl_str (s : ByteArray) (b : Nat) (m : Value) (w : World) (c0 : w.cell? ⟨b, 0, none⟩ = some (.iface 9 (.string s))) :
    Calls Tryd.prog 48 #[.slice (some ⟨b, 0, none⟩) 1 1, m] w fun e w' => e = .returned (.tuple #[.iface 2 (.int .i64 s.size), .nilIface]) ∧ w = w' := by
  go_enter Tryd.func48, Tryd.ntmps48
  go_wp2
  go_ret2
  exact ⟨rfl, rfl⟩

set_option maxRecDepth 100000 in
set_option maxHeartbeats 1000000 in
theorem bl_null (b : Nat) (m : Value) (w : World) (c0 : w.cell? ⟨b, 0, none⟩ = some .nilIface) :
    Calls Tryd.prog 48 #[.slice (some ⟨b, 0, none⟩) 1 1, m] w fun e w' => e = .returned (.tuple #[.nilIface, .nilIface]) ∧ w = w' := by
  go_enter Tryd.func48, Tryd.ntmps48
  go_wp2
  go_ret2
  exact ⟨rfl, rfl⟩

def BlErr (w : World) (e : Ending) (w' : World) : Prop := ∃ p, e = .returned (.tuple #[.nilIface, .iface 90 (.pointer (some p))]) ∧ Er w' p ∧ Below w.heap.size w w'

set_option maxRecDepth 100000 in
set_option maxHeartbeats 1000000 in
theorem invArg_any (v : Value) (s : ByteArray) (w : World) : Calls Tryd.prog 56 #[v, .string s] w (ErPost w) := by
  go_enter Tryd.func56, Tryd.ntmps56
  go_wp2_with (go_at_call 52; refine (errNew_er _ _).mono ?_; rintro e w1 ⟨p, rfl, he, hb1⟩; have HE := Lib.hid he; clear he)
  go_ret
  exact ⟨p, rfl, HE.out, hb1⟩

set_option maxRecDepth 100000 in
set_option maxHeartbeats 1000000 in
theorem bl_other (U : TypeId) (z : Value) (hU : U ≠ 9) (b : Nat) (m : Value) (w : World) (c0 : w.cell? ⟨b, 0, none⟩ = some (.iface U z)) :
    Calls Tryd.prog 48 #[.slice (some ⟨b, 0, none⟩) 1 1, m] w (BlErr w) := by
  go_enter Tryd.func48, Tryd.ntmps48
  go_wp2_with (go_at_call 56; refine (invArg_any _ _ _).mono ?_; rintro e w1 ⟨p, rfl, he, hb1⟩; have HE := Lib.hid he; clear he)
  go_ret2
  exact ⟨p, rfl, HE.out, hb1⟩

set_option maxRecDepth 100000 in
set_option maxHeartbeats 1000000 in
theorem zl_of (b : Nat) (x : Value) (w : World) (H : Hid (∀ m, Calls Tryd.prog 48 #[.slice (some ⟨b, 0, none⟩) 1 1, m] w fun e w' => e = .returned (.tuple #[x, .nilIface]) ∧ w = w')) :
    Calls Tryd.prog 34 #[.slice (some ⟨b, 0, none⟩) 1 1] w fun e w' => e = .returned (.tuple #[x, .nilIface]) ∧ w = w' := by
  go_enter Tryd.func34, Tryd.ntmps34
  go_wp2_with (go_at_call 48; refine (H.out _).mono ?_; rintro e w' ⟨rfl, rfl⟩)
  go_ret2
  exact ⟨rfl, rfl⟩

set_option maxRecDepth 100000 in
set_option maxHeartbeats 1000000 in
theorem zl_err (b : Nat) (w : World) (H : Hid (∀ m, Calls Tryd.prog 48 #[.slice (some ⟨b, 0, none⟩) 1 1, m] w (BlErr w))) :
    Calls Tryd.prog 34 #[.slice (some ⟨b, 0, none⟩) 1 1] w (BlErr w) := by
  go_enter Tryd.func34, Tryd.ntmps34
  go_wp2_with (go_at_call 48; refine (H.out _).mono ?_; rintro e w1 ⟨p, rfl, he, hb1⟩; have HE := Lib.hid he; clear he)
  go_ret2
  exact ⟨p, rfl, HE.out, hb1⟩

set_option maxRecDepth 100000 in
set_option maxHeartbeats 1000000 in
theorem implLen_str (s : ByteArray) (hs : s.size ≤ 4611686018427387904) (w : World) :
    Calls Tryd.prog 18 #[.agg #[.string strS, .int .i64 0, .int .u64 0, .float .f64 0, .string s]] w fun e w' => e = .returned (.tuple #[.agg #[.string int64S, .int .i64 s.size, .int .u64 0, .float .f64 0, .string empS], .int .i64 0]) ∧ Below w.heap.size w w' := by
  have HI := Lib.hid (fun w => in_str strS (by decide +kernel) 0 0 0 s w)
  go_enter Tryd.func18, Tryd.ntmps18
  go_wp2_with (first | (go_at_call 26; refine (HI.out _).mono ?_; rintro e w1 ⟨rfl, hb1⟩; obtain ⟨hc1, hf1⟩ := bcell hb1; have hz1 : w.heap.size < w1.heap.size := (by have := hb1.size; (try simp at this); omega); have hy1 : w.heap.size + 1 < w1.heap.size := (by have := hb1.size; (try simp at this); omega)) | (go_at_call 34; refine (zl_of w1.heap.size (.iface 2 (.int .i64 s.size)) _ (fun m => bl_str s w1.heap.size m _ (by simp [go_sem]))).mono ?_; rintro e w3 ⟨rfl, rfl⟩) | (go_at_call 29; refine (told_ok (.int .i64 s.size) (by simp [SV.wf, IntKind.min, IntKind.max, IntKind.signed, IntKind.bits]; omega) _ _ rfl).mono ?_; rintro e w4 ⟨g, hg, rfl, hb4⟩; obtain rfl : g = 0 := hg; obtain ⟨hc4, hf4⟩ := bcell hb4; have hz4 : w.heap.size < w4.heap.size := (by have := hb4.size; (try simp at this); omega); have hy4 : w.heap.size + 1 < w4.heap.size := (by have := hb4.size; (try simp at this); omega)))
  exact bodyPost_ret (v := .tuple #[.agg #[.string int64S, .int .i64 s.size, .int .u64 0, .float .f64 0, .string empS], .int .i64 0]) (by simp [results, go_sem, hc1, hc4, hy1, hz1]; exact ⟨rfl, rfl, rfl, rfl⟩) rfl ⟨rfl, below_st5 (up_below ((up_below (below_b2 w _ _) (Nat.le_refl _) hb1).alloc (by omega) _) (Nat.le_refl _) hb4) (by omega) _ _ _ _ _⟩

set_option maxRecDepth 100000 in
set_option maxHeartbeats 1000000 in
theorem implLen_null (w : World) :
    Calls Tryd.prog 18 #[.agg #[.string ⟨#[]⟩, .int .i64 0, .int .u64 0, .float .f64 0, .string ⟨#[]⟩]] w fun e w' => e = .returned (.tuple #[.agg #[.string ⟨#[]⟩, .int .i64 0, .int .u64 0, .float .f64 0, .string ⟨#[]⟩], .int .i64 0]) ∧ Below w.heap.size w w' := by
  have HI := Lib.hid (fun w => in_null ⟨#[]⟩ (by decide +kernel) 0 0 0 ⟨#[]⟩ w)
  go_enter Tryd.func18, Tryd.ntmps18
  go_wp2_with (first | (go_at_call 26; refine (HI.out _).mono ?_; rintro e w1 ⟨rfl, hb1⟩; obtain ⟨hc1, hf1⟩ := bcell hb1; have hz1 : w.heap.size < w1.heap.size := (by have := hb1.size; (try simp at this); omega); have hy1 : w.heap.size + 1 < w1.heap.size := (by have := hb1.size; (try simp at this); omega)) | (go_at_call 34; refine (zl_of w1.heap.size .nilIface _ (fun m => bl_null w1.heap.size m _ (by simp [go_sem]))).mono ?_; rintro e w3 ⟨rfl, rfl⟩) | (go_at_call 29; refine (told_ok .null trivial _ _ rfl).mono ?_; rintro e w4 ⟨g, hg, rfl, hb4⟩; obtain rfl : g = 0 := hg; obtain ⟨hc4, hf4⟩ := bcell hb4; have hz4 : w.heap.size < w4.heap.size := (by have := hb4.size; (try simp at this); omega); have hy4 : w.heap.size + 1 < w4.heap.size := (by have := hb4.size; (try simp at this); omega)))
  exact bodyPost_ret (v := .tuple #[.agg #[.string ⟨#[]⟩, .int .i64 0, .int .u64 0, .float .f64 0, .string ⟨#[]⟩], .int .i64 0]) (by simp [results, go_sem, hc1, hc4, hy1, hz1]; exact ⟨rfl, rfl, rfl, rfl⟩) rfl ⟨rfl, below_st5 (up_below ((up_below (below_b2 w _ _) (Nat.le_refl _) hb1).alloc (by omega) _) (Nat.le_refl _) hb4) (by omega) _ _ _ _ _⟩

set_option maxRecDepth 100000 in
set_option maxHeartbeats 1000000 in
theorem implLen_int (k : ByteArray) (n u : Int) (f : Nat) (s : ByteArray) (hr : Rng n u f) (hv : validB (Kd.of k.toList) n u f s = true) (q : IntKind) (hk : Kd.of k.toList = .int q) (a : Addr) (w : World) (hg : Has w a) :
    Calls Tryd.prog 18 #[.agg #[.string k, .int .i64 n, .int .u64 u, .float .f64 f, .string s]] w (NotPost w) := by
  have HI := Lib.hid (fun w => in_any k n u f s hr hv w)
  have HS : Hid (∀ w y v, SVof (Kd.of k.toList) n u f s y → Rep w y v → ∃ U z, v = .iface U z ∧ U ≠ 9) := fun w y v h h2 => by
    rw [hk] at h
    unfold SVof at h
    rw [if_neg (fun h => by cases h.1)] at h
    subst h
    exact ⟨_, _, h2, by cases q <;> decide⟩
  have HG := Lib.hid hg
  clear hr hv hk hg
  go_enter Tryd.func18, Tryd.ntmps18
  go_wp2_with (first | (go_at_call 26; refine (HI.out _).mono ?_; rintro e w1 ⟨v, y, rfl, hrep, hb1, hsv⟩; obtain ⟨U, z, rfl, hU⟩ := HS.out _ y v hsv hrep; clear hrep hsv; obtain ⟨hc1, hf1⟩ := bcell hb1; have hz1 : w.heap.size < w1.heap.size := (by have := hb1.size; (try simp at this); omega); have hy1 : w.heap.size + 1 < w1.heap.size := (by have := hb1.size; (try simp at this); omega)) | (go_at_call 34; refine (zl_err w1.heap.size _ (fun m => bl_other U z hU w1.heap.size m _ (by simp [go_sem]))).mono ?_; rintro e w3 ⟨p, rfl, he, hb3⟩; have HE := Lib.hid he; clear he; obtain ⟨hc3, hf3⟩ := bcell hb3; have hz3 : w.heap.size < w3.heap.size := (by have := hb3.size; (try simp at this); omega); have hy3 : w.heap.size + 1 < w3.heap.size := (by have := hb3.size; (try simp at this); omega); have hB3 : Below w.heap.size w w3 := up_below ((up_below (below_b2 w _ _) (Nat.le_refl _) hb1).alloc (by omega) _) (Nat.le_refl _) hb3) | (go_at_call 29; refine (told_err _ p a _ (HG.out.of hB3) HE.out).mono ?_; rintro e w4 ⟨c, rfl, hc, hb4⟩; have hc' := Lib.hid hc; clear hc; obtain ⟨hc4, hf4⟩ := bcell hb4; have hz4 : w.heap.size < w4.heap.size := (by have := hb4.size; (try simp at this); omega); have hy4 : w.heap.size + 1 < w4.heap.size := (by have := hb4.size; (try simp at this); omega)))
  exact bodyPost_ret (v := .tuple #[.agg #[.string ⟨#[]⟩, .int .i64 0, .int .u64 0, .float .f64 0, .string ⟨#[]⟩], .int .i64 c]) (by simp [results, go_sem, hc1, hc3, hc4, hy1, hy3, hz1]) rfl ⟨c, rfl, hc'.out, below_st5 (up_below hB3 (Nat.le_refl _) hb4) (by omega) _ _ _ _ _⟩

set_option maxRecDepth 100000 in
set_option maxHeartbeats 1000000 in
theorem index_abc (w : World) : Calls Tryd.prog 60 #[.string ⟨#[97, 98, 99]⟩, .string ⟨#[98]⟩] w fun e w' => e = .returned (.int .i64 1) ∧ w = w' := by
  have e0 : (((⟨#[97, 98, 99]⟩ : ByteArray).extract 0 1).toList == [98]) = false := by decide +kernel
  have e1 : (((⟨#[97, 98, 99]⟩ : ByteArray).extract 1 2).toList == [98]) = true := by decide +kernel
  go_enter Tryd.func60, Tryd.ntmps60
  go_wp2
  refine wp_loop_rounds 2 ?_
  simp only [rounds_succ]
  go_wp2
  rw [rounds_succ]
  go_wp2
  go_ret
  exact ⟨rfl, rfl⟩

end Go.Proofs.YtamekjbdpcflfaaDoor
