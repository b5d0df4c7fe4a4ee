/-
  The walk of laws.FnTypeCheckFits: it returns true, where the error of division by zero is as the program's text lays it. PRINTED BY wip/tpl/gen_lawtc.py.
-/
import Derived.Test.YtiijcmdfbgoafaaDoorLawTca
import Derived.Test.YtiijcmdfbgoafaaDoorLawTcb
import Derived.Test.YtiijcmdfbgoafaaDoorLawTcc
namespace Go.Proofs.YtiijcmdfbgoafaaDoor
open Go.RowKit

set_option maxRecDepth 100000 in
set_option maxHeartbeats 1000000 in
theorem lawTc_out1 (n c : Int) (h1 : c < 0) (a : Addr) (w : World) (hg : Has w a) : Calls Tryd.prog 3 #[.int .i64 n, .int .i64 c] w fun e w' => e = .returned (.bool true) ∧ Below w.heap.size w w' := by
  have hcell0 : ∀ (w1 : World) (b : Nat), (∀ j, j < 13 → w1.cell? ⟨b, j, none⟩ = some (.string (kname j))) → True := fun _ _ _ => trivial
  have HG := Lib.hid hg
  clear hg
  go_enter Tryd.func3, Tryd.ntmps3
  go_wp2_with (first | (go_at_call 8; refine (kinds_any _).mono ?_; rintro e w1 ⟨b, rfl, hlo, hz1, hb1, hcell⟩; have hj1 := hcell0 w1 b hcell; clear hcell; have hB1 := hb1; have hs1 := hb1.size) | (go_at_call 9; refine (checks_any a _ (HG.out.of hB1)).mono ?_; rintro e w5 ⟨rfl, hb5⟩))
  go_ret
  exact ⟨rfl, up_below hB1 (Nat.le_refl _) hb5⟩

set_option maxRecDepth 100000 in
set_option maxHeartbeats 1000000 in
theorem lawTc_out2 (n c : Int) (h2 : 13 ≤ c) (a : Addr) (w : World) (hg : Has w a) : Calls Tryd.prog 3 #[.int .i64 n, .int .i64 c] w fun e w' => e = .returned (.bool true) ∧ Below w.heap.size w w' := by
  have hcell0 : ∀ (w1 : World) (b : Nat), (∀ j, j < 13 → w1.cell? ⟨b, j, none⟩ = some (.string (kname j))) → True := fun _ _ _ => trivial
  have HG := Lib.hid hg
  clear hg
  go_enter Tryd.func3, Tryd.ntmps3
  go_wp2_with (first | (go_at_call 8; refine (kinds_any _).mono ?_; rintro e w1 ⟨b, rfl, hlo, hz1, hb1, hcell⟩; have hj1 := hcell0 w1 b hcell; clear hcell; have hB1 := hb1; have hs1 := hb1.size) | (go_at_call 9; refine (checks_any a _ (HG.out.of hB1)).mono ?_; rintro e w5 ⟨rfl, hb5⟩))
  go_ret
  exact ⟨rfl, up_below hB1 (Nat.le_refl _) hb5⟩

set_option maxRecDepth 100000 in
set_option maxHeartbeats 1000000 in
theorem lawTc_no (n c : Int) (k : ByteArray) (h1 : 0 ≤ c) (h2 : c < 13) (hk : kname c.toNat = k) (sg : Bool)
    (HW : Hid (∀ w, Calls Tryd.prog 10 #[.string k] w fun e w' => e = .returned (.tuple #[.int .i64 0, .bool sg]) ∧ w = w')) (a : Addr) (w : World) (hg : Has w a) : Calls Tryd.prog 3 #[.int .i64 n, .int .i64 c] w fun e w' => e = .returned (.bool true) ∧ Below w.heap.size w w' := by
  have hcell0 : ∀ (w1 : World) (b : Nat), (∀ j, j < 13 → w1.cell? ⟨b, j, none⟩ = some (.string (kname j))) → w1.cell? ⟨b, c.toNat, none⟩ = some (.string k) := fun w1 b h => by rw [h c.toNat (by omega), hk]
  clear hk
  have HG := Lib.hid hg
  clear hg
  go_enter Tryd.func3, Tryd.ntmps3
  go_wp2_with (first | (go_at_call 8; refine (kinds_any _).mono ?_; rintro e w1 ⟨b, rfl, hlo, hz1, hb1, hcell⟩; have hj1 := hcell0 w1 b hcell; clear hcell; have hB1 := hb1; have hs1 := hb1.size) | (go_at_call 10; refine (HW.out _).mono ?_; rintro e w4 ⟨rfl, rfl⟩) | (go_at_call 9; refine (checks_any a _ (HG.out.of hB1)).mono ?_; rintro e w5 ⟨rfl, hb5⟩))
  go_ret
  exact ⟨rfl, up_below hB1 (Nat.le_refl _) hb5⟩

theorem lawTc_i8 (n c : Int) (n1 : -9223372036854775808 ≤ n) (n2 : n ≤ 9223372036854775807) (k : ByteArray) (hk : Kd.of k.toList = .int .i8) (h1 : 0 ≤ c) (h2 : c < 13) (hc : kname c.toNat = k) (a : Addr) (w : World) (hg : Has w a) : Calls Tryd.prog 3 #[.int .i64 n, .int .i64 c] w fun e w' => e = .returned (.bool true) ∧ Below w.heap.size w w' := by
  have hw := fun w => width_any k w
  rw [hk] at hw
  by_cases hp : 0 ≤ n
  · cases hq : (n / 128 == n / 9223372036854775808) with
    | true =>
      have hq' := eq_of_beq hq
      exact lawTc_i8_pos_fit n c k h1 h2 hc hp hq a hw (fun w => (itc_i8_in n (by omega) (by omega) k hk w).mono fun e w' ⟨g, hg0, he, hb⟩ => by obtain rfl : g = 0 := hg0; exact ⟨he, hb⟩) w hg
    | false =>
      have hq' := beq_eq_false_iff_ne.1 hq
      exact lawTc_i8_pos_not n c k h1 h2 hc hp hq a hw (fun w hg => itc_i8_hi n (by omega) (by omega) k hk a w hg) w hg
  · cases hq : (n / 128 == n / 9223372036854775808) with
    | true =>
      have hq' := eq_of_beq hq
      exact lawTc_i8_neg_fit n c k h1 h2 hc (by omega) hq a hw (fun w => (itc_i8_in n (by omega) (by omega) k hk w).mono fun e w' ⟨g, hg0, he, hb⟩ => by obtain rfl : g = 0 := hg0; exact ⟨he, hb⟩) w hg
    | false =>
      have hq' := beq_eq_false_iff_ne.1 hq
      exact lawTc_i8_neg_not n c k h1 h2 hc (by omega) hq a hw (fun w hg => itc_i8_lo n (by omega) k hk a w hg) w hg

theorem lawTc_i16 (n c : Int) (n1 : -9223372036854775808 ≤ n) (n2 : n ≤ 9223372036854775807) (k : ByteArray) (hk : Kd.of k.toList = .int .i16) (h1 : 0 ≤ c) (h2 : c < 13) (hc : kname c.toNat = k) (a : Addr) (w : World) (hg : Has w a) : Calls Tryd.prog 3 #[.int .i64 n, .int .i64 c] w fun e w' => e = .returned (.bool true) ∧ Below w.heap.size w w' := by
  have hw := fun w => width_any k w
  rw [hk] at hw
  by_cases hp : 0 ≤ n
  · cases hq : (n / 32768 == n / 9223372036854775808) with
    | true =>
      have hq' := eq_of_beq hq
      exact lawTc_i16_pos_fit n c k h1 h2 hc hp hq a hw (fun w => (itc_i16_in n (by omega) (by omega) k hk w).mono fun e w' ⟨g, hg0, he, hb⟩ => by obtain rfl : g = 0 := hg0; exact ⟨he, hb⟩) w hg
    | false =>
      have hq' := beq_eq_false_iff_ne.1 hq
      exact lawTc_i16_pos_not n c k h1 h2 hc hp hq a hw (fun w hg => itc_i16_hi n (by omega) (by omega) k hk a w hg) w hg
  · cases hq : (n / 32768 == n / 9223372036854775808) with
    | true =>
      have hq' := eq_of_beq hq
      exact lawTc_i16_neg_fit n c k h1 h2 hc (by omega) hq a hw (fun w => (itc_i16_in n (by omega) (by omega) k hk w).mono fun e w' ⟨g, hg0, he, hb⟩ => by obtain rfl : g = 0 := hg0; exact ⟨he, hb⟩) w hg
    | false =>
      have hq' := beq_eq_false_iff_ne.1 hq
      exact lawTc_i16_neg_not n c k h1 h2 hc (by omega) hq a hw (fun w hg => itc_i16_lo n (by omega) k hk a w hg) w hg

theorem lawTc_i32 (n c : Int) (n1 : -9223372036854775808 ≤ n) (n2 : n ≤ 9223372036854775807) (k : ByteArray) (hk : Kd.of k.toList = .int .i32) (h1 : 0 ≤ c) (h2 : c < 13) (hc : kname c.toNat = k) (a : Addr) (w : World) (hg : Has w a) : Calls Tryd.prog 3 #[.int .i64 n, .int .i64 c] w fun e w' => e = .returned (.bool true) ∧ Below w.heap.size w w' := by
  have hw := fun w => width_any k w
  rw [hk] at hw
  by_cases hp : 0 ≤ n
  · cases hq : (n / 2147483648 == n / 9223372036854775808) with
    | true =>
      have hq' := eq_of_beq hq
      exact lawTc_i32_pos_fit n c k h1 h2 hc hp hq a hw (fun w => (itc_i32_in n (by omega) (by omega) k hk w).mono fun e w' ⟨g, hg0, he, hb⟩ => by obtain rfl : g = 0 := hg0; exact ⟨he, hb⟩) w hg
    | false =>
      have hq' := beq_eq_false_iff_ne.1 hq
      exact lawTc_i32_pos_not n c k h1 h2 hc hp hq a hw (fun w hg => itc_i32_hi n (by omega) (by omega) k hk a w hg) w hg
  · cases hq : (n / 2147483648 == n / 9223372036854775808) with
    | true =>
      have hq' := eq_of_beq hq
      exact lawTc_i32_neg_fit n c k h1 h2 hc (by omega) hq a hw (fun w => (itc_i32_in n (by omega) (by omega) k hk w).mono fun e w' ⟨g, hg0, he, hb⟩ => by obtain rfl : g = 0 := hg0; exact ⟨he, hb⟩) w hg
    | false =>
      have hq' := beq_eq_false_iff_ne.1 hq
      exact lawTc_i32_neg_not n c k h1 h2 hc (by omega) hq a hw (fun w hg => itc_i32_lo n (by omega) k hk a w hg) w hg

theorem lawTc_i64 (n c : Int) (n1 : -9223372036854775808 ≤ n) (n2 : n ≤ 9223372036854775807) (k : ByteArray) (hk : Kd.of k.toList = .int .i64) (h1 : 0 ≤ c) (h2 : c < 13) (hc : kname c.toNat = k) (a : Addr) (w : World) (hg : Has w a) : Calls Tryd.prog 3 #[.int .i64 n, .int .i64 c] w fun e w' => e = .returned (.bool true) ∧ Below w.heap.size w w' := by
  have hw := fun w => width_any k w
  rw [hk] at hw
  by_cases hp : 0 ≤ n
  · exact lawTc_i64_pos_fit n c k h1 h2 hc hp a hw (fun w => (itc_i64_in n (by omega) (by omega) k hk w).mono fun e w' ⟨g, hg0, he, hb⟩ => by obtain rfl : g = 0 := hg0; exact ⟨he, hb⟩) w hg
  · exact lawTc_i64_neg_fit n c k h1 h2 hc (by omega) a hw (fun w => (itc_i64_in n (by omega) (by omega) k hk w).mono fun e w' ⟨g, hg0, he, hb⟩ => by obtain rfl : g = 0 := hg0; exact ⟨he, hb⟩) w hg

theorem lawTc_u8 (n c : Int) (n1 : -9223372036854775808 ≤ n) (n2 : n ≤ 9223372036854775807) (k : ByteArray) (hk : Kd.of k.toList = .int .u8) (h1 : 0 ≤ c) (h2 : c < 13) (hc : kname c.toNat = k) (a : Addr) (w : World) (hg : Has w a) : Calls Tryd.prog 3 #[.int .i64 n, .int .i64 c] w fun e w' => e = .returned (.bool true) ∧ Below w.heap.size w w' := by
  have hw := fun w => width_any k w
  rw [hk] at hw
  by_cases hp : 0 ≤ n
  · cases hq : (n / 256 == 0) with
    | true =>
      have hq' := eq_of_beq hq
      exact lawTc_u8_pos_fit n c k h1 h2 hc hp hq n2 a hw (fun w => (itc_u8_in n (by omega) (by omega) k hk w).mono fun e w' ⟨g, hg0, he, hb⟩ => by obtain rfl : g = 0 := hg0; exact ⟨he, hb⟩) w hg
    | false =>
      have hq' := beq_eq_false_iff_ne.1 hq
      exact lawTc_u8_pos_not n c k h1 h2 hc hp hq a hw (fun w hg => itc_u8_hi n (by omega) (by omega) k hk a w hg) w hg
  · exact lawTc_u8_neg_not n c k h1 h2 hc (by omega) a hw (fun w hg => itc_u8_lo n (by omega) k hk a w hg) w hg

theorem lawTc_u16 (n c : Int) (n1 : -9223372036854775808 ≤ n) (n2 : n ≤ 9223372036854775807) (k : ByteArray) (hk : Kd.of k.toList = .int .u16) (h1 : 0 ≤ c) (h2 : c < 13) (hc : kname c.toNat = k) (a : Addr) (w : World) (hg : Has w a) : Calls Tryd.prog 3 #[.int .i64 n, .int .i64 c] w fun e w' => e = .returned (.bool true) ∧ Below w.heap.size w w' := by
  have hw := fun w => width_any k w
  rw [hk] at hw
  by_cases hp : 0 ≤ n
  · cases hq : (n / 65536 == 0) with
    | true =>
      have hq' := eq_of_beq hq
      exact lawTc_u16_pos_fit n c k h1 h2 hc hp hq n2 a hw (fun w => (itc_u16_in n (by omega) (by omega) k hk w).mono fun e w' ⟨g, hg0, he, hb⟩ => by obtain rfl : g = 0 := hg0; exact ⟨he, hb⟩) w hg
    | false =>
      have hq' := beq_eq_false_iff_ne.1 hq
      exact lawTc_u16_pos_not n c k h1 h2 hc hp hq a hw (fun w hg => itc_u16_hi n (by omega) (by omega) k hk a w hg) w hg
  · exact lawTc_u16_neg_not n c k h1 h2 hc (by omega) a hw (fun w hg => itc_u16_lo n (by omega) k hk a w hg) w hg

theorem lawTc_u32 (n c : Int) (n1 : -9223372036854775808 ≤ n) (n2 : n ≤ 9223372036854775807) (k : ByteArray) (hk : Kd.of k.toList = .int .u32) (h1 : 0 ≤ c) (h2 : c < 13) (hc : kname c.toNat = k) (a : Addr) (w : World) (hg : Has w a) : Calls Tryd.prog 3 #[.int .i64 n, .int .i64 c] w fun e w' => e = .returned (.bool true) ∧ Below w.heap.size w w' := by
  have hw := fun w => width_any k w
  rw [hk] at hw
  by_cases hp : 0 ≤ n
  · cases hq : (n / 4294967296 == 0) with
    | true =>
      have hq' := eq_of_beq hq
      exact lawTc_u32_pos_fit n c k h1 h2 hc hp hq n2 a hw (fun w => (itc_u32_in n (by omega) (by omega) k hk w).mono fun e w' ⟨g, hg0, he, hb⟩ => by obtain rfl : g = 0 := hg0; exact ⟨he, hb⟩) w hg
    | false =>
      have hq' := beq_eq_false_iff_ne.1 hq
      exact lawTc_u32_pos_not n c k h1 h2 hc hp hq a hw (fun w hg => itc_u32_hi n (by omega) (by omega) k hk a w hg) w hg
  · exact lawTc_u32_neg_not n c k h1 h2 hc (by omega) a hw (fun w hg => itc_u32_lo n (by omega) k hk a w hg) w hg

theorem lawTc_u64 (n c : Int) (n1 : -9223372036854775808 ≤ n) (n2 : n ≤ 9223372036854775807) (k : ByteArray) (hk : Kd.of k.toList = .int .u64) (h1 : 0 ≤ c) (h2 : c < 13) (hc : kname c.toNat = k) (a : Addr) (w : World) (hg : Has w a) : Calls Tryd.prog 3 #[.int .i64 n, .int .i64 c] w fun e w' => e = .returned (.bool true) ∧ Below w.heap.size w w' := by
  have hw := fun w => width_any k w
  rw [hk] at hw
  by_cases hp : 0 ≤ n
  · exact lawTc_u64_pos_fit n c k h1 h2 hc hp n2 a hw (fun w => (itc_u64_in n (by omega) (by omega) k hk w).mono fun e w' ⟨g, hg0, he, hb⟩ => by obtain rfl : g = 0 := hg0; exact ⟨he, hb⟩) w hg
  · exact lawTc_u64_neg_not n c k h1 h2 hc (by omega) a hw (fun w hg => itc_u64_lo n (by omega) k hk a w hg) w hg

theorem lawTc_walk (n : Int) (wn : (Lit.int .i64 n).wf = true) (c : Int) (_wc : (Lit.int .i64 c).wf = true) (a : Addr) (w : World) (hg : Has w a) : Calls Tryd.prog 3 #[.int .i64 n, .int .i64 c] w fun e w' => e = .returned (.bool true) ∧ Below w.heap.size w w' := by
  simp only [Lit.wf, Bool.and_eq_true, decide_eq_true_eq, q_i64.1, q_i64.2] at wn
  obtain ⟨n1, n2⟩ := wn
  by_cases o1 : c < 0
  · exact lawTc_out1 n c o1 a w hg
  by_cases o2 : 13 ≤ c
  · exact lawTc_out2 n c o2 a w hg
  have h1 : 0 ≤ c := by omega
  have h2 : c < 13 := by omega
  have hall : c = 0 ∨ c = 1 ∨ c = 2 ∨ c = 3 ∨ c = 4 ∨ c = 5 ∨ c = 6 ∨ c = 7 ∨ c = 8 ∨ c = 9 ∨ c = 10 ∨ c = 11 ∨ c = 12 := by omega
  rcases hall with rfl | rfl | rfl | rfl | rfl | rfl | rfl | rfl | rfl | rfl | rfl | rfl | rfl
  · have hw := fun w => width_any (kname 0) w
    rw [show Kd.of (kname 0).toList = .bool from by decide +kernel] at hw
    exact lawTc_no n 0 _ h1 h2 rfl _ hw a w hg
  · exact lawTc_i8 n 1 n1 n2 (kname 1) (by decide +kernel) h1 h2 rfl a w hg
  · exact lawTc_i16 n 2 n1 n2 (kname 2) (by decide +kernel) h1 h2 rfl a w hg
  · exact lawTc_i32 n 3 n1 n2 (kname 3) (by decide +kernel) h1 h2 rfl a w hg
  · exact lawTc_i64 n 4 n1 n2 (kname 4) (by decide +kernel) h1 h2 rfl a w hg
  · exact lawTc_u8 n 5 n1 n2 (kname 5) (by decide +kernel) h1 h2 rfl a w hg
  · exact lawTc_u16 n 6 n1 n2 (kname 6) (by decide +kernel) h1 h2 rfl a w hg
  · exact lawTc_u32 n 7 n1 n2 (kname 7) (by decide +kernel) h1 h2 rfl a w hg
  · exact lawTc_u64 n 8 n1 n2 (kname 8) (by decide +kernel) h1 h2 rfl a w hg
  · have hw := fun w => width_any (kname 9) w
    rw [show Kd.of (kname 9).toList = .f32 from by decide +kernel] at hw
    exact lawTc_no n 9 _ h1 h2 rfl _ hw a w hg
  · have hw := fun w => width_any (kname 10) w
    rw [show Kd.of (kname 10).toList = .f64 from by decide +kernel] at hw
    exact lawTc_no n 10 _ h1 h2 rfl _ hw a w hg
  · have hw := fun w => width_any (kname 11) w
    rw [show Kd.of (kname 11).toList = .str from by decide +kernel] at hw
    exact lawTc_no n 11 _ h1 h2 rfl _ hw a w hg
  · have hw := fun w => width_any (kname 12) w
    rw [show Kd.of (kname 12).toList = .blob from by decide +kernel] at hw
    exact lawTc_no n 12 _ h1 h2 rfl _ hw a w hg

end Go.Proofs.YtiijcmdfbgoafaaDoor
