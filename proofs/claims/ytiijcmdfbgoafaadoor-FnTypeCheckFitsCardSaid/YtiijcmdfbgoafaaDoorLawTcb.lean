/-
  The walk of laws.FnTypeCheckFits, some types. PRINTED BY wip/tpl/gen_lawtc.py.
-/
import Derived.Test.YtiijcmdfbgoafaaDoorTcj
namespace Go.Proofs.YtiijcmdfbgoafaaDoor
open Go.RowKit

set_option maxRecDepth 100000 in
set_option maxHeartbeats 1000000 in
theorem lawTc_i16_neg_not (n c : Int) (k : ByteArray) (h1 : 0 ≤ c) (h2 : c < 13) (hk : kname c.toNat = k) (_h0 : n < 0) (hq : (n / 32768 == n / 9223372036854775808) = false) (a : Addr)
    (HW : Hid (∀ w, Calls Tryd.prog 10 #[.string k] w fun e w' => e = .returned (.tuple #[.int .i64 16, .bool true]) ∧ w = w'))
    (HN : Hid (∀ w, Has w a → Calls Tryd.prog 11 #[.agg #[.string idealIntS, .int .i64 n, .int .u64 0, .float .f64 0, .string empS], .string k] w (NotPost w))) (w : World) (hg : Has w a) :
    Calls Tryd.prog 3 #[.int .i64 n, .int .i64 c] w fun e w' => e = .returned (.bool true) ∧ Below w.heap.size w w' := by
  have hcell0 : ∀ (w1 : World) (b : Nat), (∀ j, j < 13 → w1.cell? ⟨b, j, none⟩ = some (.string (kname j))) → w1.cell? ⟨b, c.toNat, none⟩ = some (.string k) := fun w1 b h => by rw [h c.toNat (by omega), hk]
  clear hk
  have HG := Lib.hid hg
  clear hg
  go_enter Tryd.func3, Tryd.ntmps3
  go_wp2_with (first | (go_at_call 8; refine (kinds_any _).mono ?_; rintro e w1 ⟨b, rfl, hlo, hz1, hb1, hcell⟩; have hj1 := hcell0 w1 b hcell; clear hcell; have hB1 := hb1; have hs1 := hb1.size) | (go_at_call 10; refine (HW.out _).mono ?_; rintro e w4 ⟨rfl, rfl⟩) | (go_at_call 11; refine (HN.out _ (HG.out.of (by first | (with_reducible exact hB1) | (with_reducible exact hB1.drew) | (with_reducible exact hB1.alloc hB1.size _) | (with_reducible exact hB1.drew.alloc hB1.size _) | (with_reducible exact (hB1.alloc hB1.size _).drew)))).mono ?_; rintro e w2 ⟨c0, rfl, hc0, hb2⟩; have hcb : (c0 == 0) = false := beq_eq_false_iff_ne.2 hc0; have hcb2 : (c0 != 0) = true := bne_iff_ne.2 hc0; clear hc0; obtain ⟨hc2, hf2⟩ := (by first | exact bcellD hb2 | exact bcell hb2); have hB2 : Below w.heap.size w w2 := (by first | (with_reducible exact up_below hB1 (Nat.le_refl _) hb2) | (with_reducible exact up_below hB1.drew (Nat.le_refl _) hb2) | (with_reducible exact up_below (hB1.alloc hB1.size _) (Nat.le_refl _) hb2) | (with_reducible exact up_below (hB1.drew.alloc hB1.size _) (Nat.le_refl _) hb2) | (with_reducible exact up_below (hB1.alloc hB1.size _).drew (Nat.le_refl _) hb2)); have hs2 := hb2.size; (try simp at hs2); (try (have hx2 : w1.heap.size < w2.heap.size := (by have := hb2.size; (try simp at this); omega)))) | (go_at_call 9; refine (checks_any a _ (HG.out.of (hB2.alloc hB2.size _))).mono ?_; rintro e w5 ⟨rfl, hb5⟩))
  go_ret
  exact ⟨rfl, up_below (hB2.alloc hB2.size _) (Nat.le_refl _) hb5⟩

set_option maxRecDepth 100000 in
set_option maxHeartbeats 1000000 in
theorem lawTc_i32_pos_fit (n c : Int) (k : ByteArray) (h1 : 0 ≤ c) (h2 : c < 13) (hk : kname c.toNat = k) (_h0 : 0 ≤ n) (hq : (n / 2147483648 == n / 9223372036854775808) = true) (a : Addr)
    (HW : Hid (∀ w, Calls Tryd.prog 10 #[.string k] w fun e w' => e = .returned (.tuple #[.int .i64 32, .bool true]) ∧ w = w'))
    (HN : Hid (∀ w, Calls Tryd.prog 11 #[.agg #[.string idealIntS, .int .i64 n, .int .u64 0, .float .f64 0, .string empS], .string k] w fun e w' => e = .returned (.tuple #[.agg #[.string ⟨#[105, 110, 116, 51, 50]⟩, .int .i64 n, .int .u64 0, .float .f64 0, .string ⟨#[]⟩], .int .i64 0]) ∧ Below w.heap.size w w')) (w : World) (hg : Has w a) :
    Calls Tryd.prog 3 #[.int .i64 n, .int .i64 c] w fun e w' => e = .returned (.bool true) ∧ Below w.heap.size w w' := by
  have hcell0 : ∀ (w1 : World) (b : Nat), (∀ j, j < 13 → w1.cell? ⟨b, j, none⟩ = some (.string (kname j))) → w1.cell? ⟨b, c.toNat, none⟩ = some (.string k) := fun w1 b h => by rw [h c.toNat (by omega), hk]
  clear hk
  have HG := Lib.hid hg
  clear hg
  go_enter Tryd.func3, Tryd.ntmps3
  go_wp2_with (first | (go_at_call 8; refine (kinds_any _).mono ?_; rintro e w1 ⟨b, rfl, hlo, hz1, hb1, hcell⟩; have hj1 := hcell0 w1 b hcell; clear hcell; have hB1 := hb1; have hs1 := hb1.size) | (go_at_call 10; refine (HW.out _).mono ?_; rintro e w4 ⟨rfl, rfl⟩) | (go_at_call 11; refine (HN.out _).mono ?_; rintro e w2 ⟨rfl, hb2⟩; obtain ⟨hc2, hf2⟩ := (by first | exact bcellD hb2 | exact bcell hb2); have hB2 : Below w.heap.size w w2 := (by first | (with_reducible exact up_below hB1 (Nat.le_refl _) hb2) | (with_reducible exact up_below hB1.drew (Nat.le_refl _) hb2) | (with_reducible exact up_below (hB1.alloc hB1.size _) (Nat.le_refl _) hb2) | (with_reducible exact up_below (hB1.drew.alloc hB1.size _) (Nat.le_refl _) hb2) | (with_reducible exact up_below (hB1.alloc hB1.size _).drew (Nat.le_refl _) hb2)); have hs2 := hb2.size; (try simp at hs2); (try (have hx2 : w1.heap.size < w2.heap.size := (by have := hb2.size; (try simp at this); omega)))) | (go_at_call 9; refine (checks_any a _ (HG.out.of (hB2.alloc hB2.size _))).mono ?_; rintro e w5 ⟨rfl, hb5⟩))
  go_ret
  exact ⟨rfl, up_below (hB2.alloc hB2.size _) (Nat.le_refl _) hb5⟩

set_option maxRecDepth 100000 in
set_option maxHeartbeats 1000000 in
theorem lawTc_i32_pos_not (n c : Int) (k : ByteArray) (h1 : 0 ≤ c) (h2 : c < 13) (hk : kname c.toNat = k) (_h0 : 0 ≤ n) (hq : (n / 2147483648 == n / 9223372036854775808) = false) (a : Addr)
    (HW : Hid (∀ w, Calls Tryd.prog 10 #[.string k] w fun e w' => e = .returned (.tuple #[.int .i64 32, .bool true]) ∧ w = w'))
    (HN : Hid (∀ w, Has w a → Calls Tryd.prog 11 #[.agg #[.string idealIntS, .int .i64 n, .int .u64 0, .float .f64 0, .string empS], .string k] w (NotPost w))) (w : World) (hg : Has w a) :
    Calls Tryd.prog 3 #[.int .i64 n, .int .i64 c] w fun e w' => e = .returned (.bool true) ∧ Below w.heap.size w w' := by
  have hcell0 : ∀ (w1 : World) (b : Nat), (∀ j, j < 13 → w1.cell? ⟨b, j, none⟩ = some (.string (kname j))) → w1.cell? ⟨b, c.toNat, none⟩ = some (.string k) := fun w1 b h => by rw [h c.toNat (by omega), hk]
  clear hk
  have HG := Lib.hid hg
  clear hg
  go_enter Tryd.func3, Tryd.ntmps3
  go_wp2_with (first | (go_at_call 8; refine (kinds_any _).mono ?_; rintro e w1 ⟨b, rfl, hlo, hz1, hb1, hcell⟩; have hj1 := hcell0 w1 b hcell; clear hcell; have hB1 := hb1; have hs1 := hb1.size) | (go_at_call 10; refine (HW.out _).mono ?_; rintro e w4 ⟨rfl, rfl⟩) | (go_at_call 11; refine (HN.out _ (HG.out.of (by first | (with_reducible exact hB1) | (with_reducible exact hB1.drew) | (with_reducible exact hB1.alloc hB1.size _) | (with_reducible exact hB1.drew.alloc hB1.size _) | (with_reducible exact (hB1.alloc hB1.size _).drew)))).mono ?_; rintro e w2 ⟨c0, rfl, hc0, hb2⟩; have hcb : (c0 == 0) = false := beq_eq_false_iff_ne.2 hc0; have hcb2 : (c0 != 0) = true := bne_iff_ne.2 hc0; clear hc0; obtain ⟨hc2, hf2⟩ := (by first | exact bcellD hb2 | exact bcell hb2); have hB2 : Below w.heap.size w w2 := (by first | (with_reducible exact up_below hB1 (Nat.le_refl _) hb2) | (with_reducible exact up_below hB1.drew (Nat.le_refl _) hb2) | (with_reducible exact up_below (hB1.alloc hB1.size _) (Nat.le_refl _) hb2) | (with_reducible exact up_below (hB1.drew.alloc hB1.size _) (Nat.le_refl _) hb2) | (with_reducible exact up_below (hB1.alloc hB1.size _).drew (Nat.le_refl _) hb2)); have hs2 := hb2.size; (try simp at hs2); (try (have hx2 : w1.heap.size < w2.heap.size := (by have := hb2.size; (try simp at this); omega)))) | (go_at_call 9; refine (checks_any a _ (HG.out.of (hB2.alloc hB2.size _))).mono ?_; rintro e w5 ⟨rfl, hb5⟩))
  go_ret
  exact ⟨rfl, up_below (hB2.alloc hB2.size _) (Nat.le_refl _) hb5⟩

set_option maxRecDepth 100000 in
set_option maxHeartbeats 1000000 in
theorem lawTc_i32_neg_fit (n c : Int) (k : ByteArray) (h1 : 0 ≤ c) (h2 : c < 13) (hk : kname c.toNat = k) (_h0 : n < 0) (hq : (n / 2147483648 == n / 9223372036854775808) = true) (a : Addr)
    (HW : Hid (∀ w, Calls Tryd.prog 10 #[.string k] w fun e w' => e = .returned (.tuple #[.int .i64 32, .bool true]) ∧ w = w'))
    (HN : Hid (∀ w, Calls Tryd.prog 11 #[.agg #[.string idealIntS, .int .i64 n, .int .u64 0, .float .f64 0, .string empS], .string k] w fun e w' => e = .returned (.tuple #[.agg #[.string ⟨#[105, 110, 116, 51, 50]⟩, .int .i64 n, .int .u64 0, .float .f64 0, .string ⟨#[]⟩], .int .i64 0]) ∧ Below w.heap.size w w')) (w : World) (hg : Has w a) :
    Calls Tryd.prog 3 #[.int .i64 n, .int .i64 c] w fun e w' => e = .returned (.bool true) ∧ Below w.heap.size w w' := by
  have hcell0 : ∀ (w1 : World) (b : Nat), (∀ j, j < 13 → w1.cell? ⟨b, j, none⟩ = some (.string (kname j))) → w1.cell? ⟨b, c.toNat, none⟩ = some (.string k) := fun w1 b h => by rw [h c.toNat (by omega), hk]
  clear hk
  have HG := Lib.hid hg
  clear hg
  go_enter Tryd.func3, Tryd.ntmps3
  go_wp2_with (first | (go_at_call 8; refine (kinds_any _).mono ?_; rintro e w1 ⟨b, rfl, hlo, hz1, hb1, hcell⟩; have hj1 := hcell0 w1 b hcell; clear hcell; have hB1 := hb1; have hs1 := hb1.size) | (go_at_call 10; refine (HW.out _).mono ?_; rintro e w4 ⟨rfl, rfl⟩) | (go_at_call 11; refine (HN.out _).mono ?_; rintro e w2 ⟨rfl, hb2⟩; obtain ⟨hc2, hf2⟩ := (by first | exact bcellD hb2 | exact bcell hb2); have hB2 : Below w.heap.size w w2 := (by first | (with_reducible exact up_below hB1 (Nat.le_refl _) hb2) | (with_reducible exact up_below hB1.drew (Nat.le_refl _) hb2) | (with_reducible exact up_below (hB1.alloc hB1.size _) (Nat.le_refl _) hb2) | (with_reducible exact up_below (hB1.drew.alloc hB1.size _) (Nat.le_refl _) hb2) | (with_reducible exact up_below (hB1.alloc hB1.size _).drew (Nat.le_refl _) hb2)); have hs2 := hb2.size; (try simp at hs2); (try (have hx2 : w1.heap.size < w2.heap.size := (by have := hb2.size; (try simp at this); omega)))) | (go_at_call 9; refine (checks_any a _ (HG.out.of (hB2.alloc hB2.size _))).mono ?_; rintro e w5 ⟨rfl, hb5⟩))
  go_ret
  exact ⟨rfl, up_below (hB2.alloc hB2.size _) (Nat.le_refl _) hb5⟩

set_option maxRecDepth 100000 in
set_option maxHeartbeats 1000000 in
theorem lawTc_i32_neg_not (n c : Int) (k : ByteArray) (h1 : 0 ≤ c) (h2 : c < 13) (hk : kname c.toNat = k) (_h0 : n < 0) (hq : (n / 2147483648 == n / 9223372036854775808) = false) (a : Addr)
    (HW : Hid (∀ w, Calls Tryd.prog 10 #[.string k] w fun e w' => e = .returned (.tuple #[.int .i64 32, .bool true]) ∧ w = w'))
    (HN : Hid (∀ w, Has w a → Calls Tryd.prog 11 #[.agg #[.string idealIntS, .int .i64 n, .int .u64 0, .float .f64 0, .string empS], .string k] w (NotPost w))) (w : World) (hg : Has w a) :
    Calls Tryd.prog 3 #[.int .i64 n, .int .i64 c] w fun e w' => e = .returned (.bool true) ∧ Below w.heap.size w w' := by
  have hcell0 : ∀ (w1 : World) (b : Nat), (∀ j, j < 13 → w1.cell? ⟨b, j, none⟩ = some (.string (kname j))) → w1.cell? ⟨b, c.toNat, none⟩ = some (.string k) := fun w1 b h => by rw [h c.toNat (by omega), hk]
  clear hk
  have HG := Lib.hid hg
  clear hg
  go_enter Tryd.func3, Tryd.ntmps3
  go_wp2_with (first | (go_at_call 8; refine (kinds_any _).mono ?_; rintro e w1 ⟨b, rfl, hlo, hz1, hb1, hcell⟩; have hj1 := hcell0 w1 b hcell; clear hcell; have hB1 := hb1; have hs1 := hb1.size) | (go_at_call 10; refine (HW.out _).mono ?_; rintro e w4 ⟨rfl, rfl⟩) | (go_at_call 11; refine (HN.out _ (HG.out.of (by first | (with_reducible exact hB1) | (with_reducible exact hB1.drew) | (with_reducible exact hB1.alloc hB1.size _) | (with_reducible exact hB1.drew.alloc hB1.size _) | (with_reducible exact (hB1.alloc hB1.size _).drew)))).mono ?_; rintro e w2 ⟨c0, rfl, hc0, hb2⟩; have hcb : (c0 == 0) = false := beq_eq_false_iff_ne.2 hc0; have hcb2 : (c0 != 0) = true := bne_iff_ne.2 hc0; clear hc0; obtain ⟨hc2, hf2⟩ := (by first | exact bcellD hb2 | exact bcell hb2); have hB2 : Below w.heap.size w w2 := (by first | (with_reducible exact up_below hB1 (Nat.le_refl _) hb2) | (with_reducible exact up_below hB1.drew (Nat.le_refl _) hb2) | (with_reducible exact up_below (hB1.alloc hB1.size _) (Nat.le_refl _) hb2) | (with_reducible exact up_below (hB1.drew.alloc hB1.size _) (Nat.le_refl _) hb2) | (with_reducible exact up_below (hB1.alloc hB1.size _).drew (Nat.le_refl _) hb2)); have hs2 := hb2.size; (try simp at hs2); (try (have hx2 : w1.heap.size < w2.heap.size := (by have := hb2.size; (try simp at this); omega)))) | (go_at_call 9; refine (checks_any a _ (HG.out.of (hB2.alloc hB2.size _))).mono ?_; rintro e w5 ⟨rfl, hb5⟩))
  go_ret
  exact ⟨rfl, up_below (hB2.alloc hB2.size _) (Nat.le_refl _) hb5⟩

set_option maxRecDepth 100000 in
set_option maxHeartbeats 1000000 in
theorem lawTc_i64_pos_fit (n c : Int) (k : ByteArray) (h1 : 0 ≤ c) (h2 : c < 13) (hk : kname c.toNat = k) (_h0 : 0 ≤ n) (a : Addr)
    (HW : Hid (∀ w, Calls Tryd.prog 10 #[.string k] w fun e w' => e = .returned (.tuple #[.int .i64 64, .bool true]) ∧ w = w'))
    (HN : Hid (∀ w, Calls Tryd.prog 11 #[.agg #[.string idealIntS, .int .i64 n, .int .u64 0, .float .f64 0, .string empS], .string k] w fun e w' => e = .returned (.tuple #[.agg #[.string ⟨#[105, 110, 116, 54, 52]⟩, .int .i64 n, .int .u64 0, .float .f64 0, .string ⟨#[]⟩], .int .i64 0]) ∧ Below w.heap.size w w')) (w : World) (hg : Has w a) :
    Calls Tryd.prog 3 #[.int .i64 n, .int .i64 c] w fun e w' => e = .returned (.bool true) ∧ Below w.heap.size w w' := by
  have hcell0 : ∀ (w1 : World) (b : Nat), (∀ j, j < 13 → w1.cell? ⟨b, j, none⟩ = some (.string (kname j))) → w1.cell? ⟨b, c.toNat, none⟩ = some (.string k) := fun w1 b h => by rw [h c.toNat (by omega), hk]
  clear hk
  have HG := Lib.hid hg
  clear hg
  go_enter Tryd.func3, Tryd.ntmps3
  go_wp2_with (first | (go_at_call 8; refine (kinds_any _).mono ?_; rintro e w1 ⟨b, rfl, hlo, hz1, hb1, hcell⟩; have hj1 := hcell0 w1 b hcell; clear hcell; have hB1 := hb1; have hs1 := hb1.size) | (go_at_call 10; refine (HW.out _).mono ?_; rintro e w4 ⟨rfl, rfl⟩) | (go_at_call 11; refine (HN.out _).mono ?_; rintro e w2 ⟨rfl, hb2⟩; obtain ⟨hc2, hf2⟩ := (by first | exact bcellD hb2 | exact bcell hb2); have hB2 : Below w.heap.size w w2 := (by first | (with_reducible exact up_below hB1 (Nat.le_refl _) hb2) | (with_reducible exact up_below hB1.drew (Nat.le_refl _) hb2) | (with_reducible exact up_below (hB1.alloc hB1.size _) (Nat.le_refl _) hb2) | (with_reducible exact up_below (hB1.drew.alloc hB1.size _) (Nat.le_refl _) hb2) | (with_reducible exact up_below (hB1.alloc hB1.size _).drew (Nat.le_refl _) hb2)); have hs2 := hb2.size; (try simp at hs2); (try (have hx2 : w1.heap.size < w2.heap.size := (by have := hb2.size; (try simp at this); omega)))) | (go_at_call 9; refine (checks_any a _ (HG.out.of (hB2.alloc hB2.size _))).mono ?_; rintro e w5 ⟨rfl, hb5⟩))
  go_ret
  exact ⟨rfl, up_below (hB2.alloc hB2.size _) (Nat.le_refl _) hb5⟩

set_option maxRecDepth 100000 in
set_option maxHeartbeats 1000000 in
theorem lawTc_i64_neg_fit (n c : Int) (k : ByteArray) (h1 : 0 ≤ c) (h2 : c < 13) (hk : kname c.toNat = k) (_h0 : n < 0) (a : Addr)
    (HW : Hid (∀ w, Calls Tryd.prog 10 #[.string k] w fun e w' => e = .returned (.tuple #[.int .i64 64, .bool true]) ∧ w = w'))
    (HN : Hid (∀ w, Calls Tryd.prog 11 #[.agg #[.string idealIntS, .int .i64 n, .int .u64 0, .float .f64 0, .string empS], .string k] w fun e w' => e = .returned (.tuple #[.agg #[.string ⟨#[105, 110, 116, 54, 52]⟩, .int .i64 n, .int .u64 0, .float .f64 0, .string ⟨#[]⟩], .int .i64 0]) ∧ Below w.heap.size w w')) (w : World) (hg : Has w a) :
    Calls Tryd.prog 3 #[.int .i64 n, .int .i64 c] w fun e w' => e = .returned (.bool true) ∧ Below w.heap.size w w' := by
  have hcell0 : ∀ (w1 : World) (b : Nat), (∀ j, j < 13 → w1.cell? ⟨b, j, none⟩ = some (.string (kname j))) → w1.cell? ⟨b, c.toNat, none⟩ = some (.string k) := fun w1 b h => by rw [h c.toNat (by omega), hk]
  clear hk
  have HG := Lib.hid hg
  clear hg
  go_enter Tryd.func3, Tryd.ntmps3
  go_wp2_with (first | (go_at_call 8; refine (kinds_any _).mono ?_; rintro e w1 ⟨b, rfl, hlo, hz1, hb1, hcell⟩; have hj1 := hcell0 w1 b hcell; clear hcell; have hB1 := hb1; have hs1 := hb1.size) | (go_at_call 10; refine (HW.out _).mono ?_; rintro e w4 ⟨rfl, rfl⟩) | (go_at_call 11; refine (HN.out _).mono ?_; rintro e w2 ⟨rfl, hb2⟩; obtain ⟨hc2, hf2⟩ := (by first | exact bcellD hb2 | exact bcell hb2); have hB2 : Below w.heap.size w w2 := (by first | (with_reducible exact up_below hB1 (Nat.le_refl _) hb2) | (with_reducible exact up_below hB1.drew (Nat.le_refl _) hb2) | (with_reducible exact up_below (hB1.alloc hB1.size _) (Nat.le_refl _) hb2) | (with_reducible exact up_below (hB1.drew.alloc hB1.size _) (Nat.le_refl _) hb2) | (with_reducible exact up_below (hB1.alloc hB1.size _).drew (Nat.le_refl _) hb2)); have hs2 := hb2.size; (try simp at hs2); (try (have hx2 : w1.heap.size < w2.heap.size := (by have := hb2.size; (try simp at this); omega)))) | (go_at_call 9; refine (checks_any a _ (HG.out.of (hB2.alloc hB2.size _))).mono ?_; rintro e w5 ⟨rfl, hb5⟩))
  go_ret
  exact ⟨rfl, up_below (hB2.alloc hB2.size _) (Nat.le_refl _) hb5⟩

end Go.Proofs.YtiijcmdfbgoafaaDoor
