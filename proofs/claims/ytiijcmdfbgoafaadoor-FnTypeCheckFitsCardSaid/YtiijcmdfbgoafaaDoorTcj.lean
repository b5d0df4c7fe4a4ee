/-
  impl.TypeCheck of a literal integer in a column of integers; laws.checks. PRINTED BY wip/tpl/gen_lawtc.py.
-/
import Derived.Test.YtiijcmdfbgoafaaDoorTz
import Derived.Test.YtiijcmdfbgoafaaDoorTca
import Derived.Test.YtiijcmdfbgoafaaDoorTcb
import Derived.Test.YtiijcmdfbgoafaaDoorTcc
import Derived.Test.YtiijcmdfbgoafaaDoorTcd
namespace Go.Proofs.YtiijcmdfbgoafaaDoor
open Go.RowKit

theorem itc_i8_in (n : Int) (h1 : -128 ≤ n) (h2 : n ≤ 127) (k : ByteArray) (hk : Kd.of k.toList = .int .i8) (w : World) : Calls Tryd.prog 11 #[.agg #[.string idealIntS, .int .i64 n, .int .u64 0, .float .f64 0, .string empS], .string k] w (ToldPost (.int .i8 n) w) :=
  itc_fit n k .i8 105 (by decide) (by simp [SV.wf, IntKind.min, IntKind.max, IntKind.signed, IntKind.bits]; omega) (fun w => by have := zzType_any k (by rw [hk]; rfl) w; rw [hk] at this; exact this)
    (fun w => ztc_fit n _ _ 105 (fun b c d w c0 f0 c1 c2 c3 => tc_i8_fit n h1 h2 b c d w c0 f0 c1 c2 c3) w) w
theorem itc_i8_lo (n : Int) (h : n < -128) (k : ByteArray) (hk : Kd.of k.toList = .int .i8) (a : Addr) (w : World) (hg : Has w a) : Calls Tryd.prog 11 #[.agg #[.string idealIntS, .int .i64 n, .int .u64 0, .float .f64 0, .string empS], .string k] w (NotPost w) :=
  itc_err n k 105 (by decide) (fun w => by have := zzType_any k (by rw [hk]; rfl) w; rw [hk] at this; exact this)
    (fun w => ztc_err n 105 (fun b c d w c0 c1 c2 c3 => tc_i8_lo n h b c d w c0 c1 c2 c3) w) a w hg
theorem itc_i8_hi (n : Int) (h1 : -128 ≤ n) (h : 127 < n) (k : ByteArray) (hk : Kd.of k.toList = .int .i8) (a : Addr) (w : World) (hg : Has w a) : Calls Tryd.prog 11 #[.agg #[.string idealIntS, .int .i64 n, .int .u64 0, .float .f64 0, .string empS], .string k] w (NotPost w) :=
  itc_err n k 105 (by decide) (fun w => by have := zzType_any k (by rw [hk]; rfl) w; rw [hk] at this; exact this)
    (fun w => ztc_err n 105 (fun b c d w c0 c1 c2 c3 => tc_i8_hi n h1 h b c d w c0 c1 c2 c3) w) a w hg
theorem itc_i16_in (n : Int) (h1 : -32768 ≤ n) (h2 : n ≤ 32767) (k : ByteArray) (hk : Kd.of k.toList = .int .i16) (w : World) : Calls Tryd.prog 11 #[.agg #[.string idealIntS, .int .i64 n, .int .u64 0, .float .f64 0, .string empS], .string k] w (ToldPost (.int .i16 n) w) :=
  itc_fit n k .i16 106 (by decide) (by simp [SV.wf, IntKind.min, IntKind.max, IntKind.signed, IntKind.bits]; omega) (fun w => by have := zzType_any k (by rw [hk]; rfl) w; rw [hk] at this; exact this)
    (fun w => ztc_fit n _ _ 106 (fun b c d w c0 f0 c1 c2 c3 => tc_i16_fit n h1 h2 b c d w c0 f0 c1 c2 c3) w) w
theorem itc_i16_lo (n : Int) (h : n < -32768) (k : ByteArray) (hk : Kd.of k.toList = .int .i16) (a : Addr) (w : World) (hg : Has w a) : Calls Tryd.prog 11 #[.agg #[.string idealIntS, .int .i64 n, .int .u64 0, .float .f64 0, .string empS], .string k] w (NotPost w) :=
  itc_err n k 106 (by decide) (fun w => by have := zzType_any k (by rw [hk]; rfl) w; rw [hk] at this; exact this)
    (fun w => ztc_err n 106 (fun b c d w c0 c1 c2 c3 => tc_i16_lo n h b c d w c0 c1 c2 c3) w) a w hg
theorem itc_i16_hi (n : Int) (h1 : -32768 ≤ n) (h : 32767 < n) (k : ByteArray) (hk : Kd.of k.toList = .int .i16) (a : Addr) (w : World) (hg : Has w a) : Calls Tryd.prog 11 #[.agg #[.string idealIntS, .int .i64 n, .int .u64 0, .float .f64 0, .string empS], .string k] w (NotPost w) :=
  itc_err n k 106 (by decide) (fun w => by have := zzType_any k (by rw [hk]; rfl) w; rw [hk] at this; exact this)
    (fun w => ztc_err n 106 (fun b c d w c0 c1 c2 c3 => tc_i16_hi n h1 h b c d w c0 c1 c2 c3) w) a w hg
theorem itc_i32_in (n : Int) (h1 : -2147483648 ≤ n) (h2 : n ≤ 2147483647) (k : ByteArray) (hk : Kd.of k.toList = .int .i32) (w : World) : Calls Tryd.prog 11 #[.agg #[.string idealIntS, .int .i64 n, .int .u64 0, .float .f64 0, .string empS], .string k] w (ToldPost (.int .i32 n) w) :=
  itc_fit n k .i32 107 (by decide) (by simp [SV.wf, IntKind.min, IntKind.max, IntKind.signed, IntKind.bits]; omega) (fun w => by have := zzType_any k (by rw [hk]; rfl) w; rw [hk] at this; exact this)
    (fun w => ztc_fit n _ _ 107 (fun b c d w c0 f0 c1 c2 c3 => tc_i32_fit n h1 h2 b c d w c0 f0 c1 c2 c3) w) w
theorem itc_i32_lo (n : Int) (h : n < -2147483648) (k : ByteArray) (hk : Kd.of k.toList = .int .i32) (a : Addr) (w : World) (hg : Has w a) : Calls Tryd.prog 11 #[.agg #[.string idealIntS, .int .i64 n, .int .u64 0, .float .f64 0, .string empS], .string k] w (NotPost w) :=
  itc_err n k 107 (by decide) (fun w => by have := zzType_any k (by rw [hk]; rfl) w; rw [hk] at this; exact this)
    (fun w => ztc_err n 107 (fun b c d w c0 c1 c2 c3 => tc_i32_lo n h b c d w c0 c1 c2 c3) w) a w hg
theorem itc_i32_hi (n : Int) (h1 : -2147483648 ≤ n) (h : 2147483647 < n) (k : ByteArray) (hk : Kd.of k.toList = .int .i32) (a : Addr) (w : World) (hg : Has w a) : Calls Tryd.prog 11 #[.agg #[.string idealIntS, .int .i64 n, .int .u64 0, .float .f64 0, .string empS], .string k] w (NotPost w) :=
  itc_err n k 107 (by decide) (fun w => by have := zzType_any k (by rw [hk]; rfl) w; rw [hk] at this; exact this)
    (fun w => ztc_err n 107 (fun b c d w c0 c1 c2 c3 => tc_i32_hi n h1 h b c d w c0 c1 c2 c3) w) a w hg
theorem itc_i64_in (n : Int) (h1 : -9223372036854775808 ≤ n) (h2 : n ≤ 9223372036854775807) (k : ByteArray) (hk : Kd.of k.toList = .int .i64) (w : World) : Calls Tryd.prog 11 #[.agg #[.string idealIntS, .int .i64 n, .int .u64 0, .float .f64 0, .string empS], .string k] w (ToldPost (.int .i64 n) w) :=
  itc_fit n k .i64 108 (by decide) (by simp [SV.wf, IntKind.min, IntKind.max, IntKind.signed, IntKind.bits]; omega) (fun w => by have := zzType_any k (by rw [hk]; rfl) w; rw [hk] at this; exact this)
    (fun w => ztc_fit n _ _ 108 (fun b c d w c0 f0 c1 c2 c3 => tc_i64_fit n h1 h2 b c d w c0 f0 c1 c2 c3) w) w
theorem itc_u8_in (n : Int) (h1 : 0 ≤ n) (h2 : n ≤ 255) (k : ByteArray) (hk : Kd.of k.toList = .int .u8) (w : World) : Calls Tryd.prog 11 #[.agg #[.string idealIntS, .int .i64 n, .int .u64 0, .float .f64 0, .string empS], .string k] w (ToldPost (.int .u8 n) w) :=
  itc_fit n k .u8 117 (by decide) (by simp [SV.wf, IntKind.min, IntKind.max, IntKind.signed, IntKind.bits]; omega) (fun w => by have := zzType_any k (by rw [hk]; rfl) w; rw [hk] at this; exact this)
    (fun w => ztc_fit n _ _ 117 (fun b c d w c0 f0 c1 c2 c3 => tc_u8_fit n h1 h2 b c d w c0 f0 c1 c2 c3) w) w
theorem itc_u8_lo (n : Int) (h : n < 0) (k : ByteArray) (hk : Kd.of k.toList = .int .u8) (a : Addr) (w : World) (hg : Has w a) : Calls Tryd.prog 11 #[.agg #[.string idealIntS, .int .i64 n, .int .u64 0, .float .f64 0, .string empS], .string k] w (NotPost w) :=
  itc_err n k 117 (by decide) (fun w => by have := zzType_any k (by rw [hk]; rfl) w; rw [hk] at this; exact this)
    (fun w => ztc_err n 117 (fun b c d w c0 c1 c2 c3 => tc_u8_lo n h b c d w c0 c1 c2 c3) w) a w hg
theorem itc_u8_hi (n : Int) (h1 : 0 ≤ n) (h : 255 < n) (k : ByteArray) (hk : Kd.of k.toList = .int .u8) (a : Addr) (w : World) (hg : Has w a) : Calls Tryd.prog 11 #[.agg #[.string idealIntS, .int .i64 n, .int .u64 0, .float .f64 0, .string empS], .string k] w (NotPost w) :=
  itc_err n k 117 (by decide) (fun w => by have := zzType_any k (by rw [hk]; rfl) w; rw [hk] at this; exact this)
    (fun w => ztc_err n 117 (fun b c d w c0 c1 c2 c3 => tc_u8_hi n h1 h b c d w c0 c1 c2 c3) w) a w hg
theorem itc_u16_in (n : Int) (h1 : 0 ≤ n) (h2 : n ≤ 65535) (k : ByteArray) (hk : Kd.of k.toList = .int .u16) (w : World) : Calls Tryd.prog 11 #[.agg #[.string idealIntS, .int .i64 n, .int .u64 0, .float .f64 0, .string empS], .string k] w (ToldPost (.int .u16 n) w) :=
  itc_fit n k .u16 118 (by decide) (by simp [SV.wf, IntKind.min, IntKind.max, IntKind.signed, IntKind.bits]; omega) (fun w => by have := zzType_any k (by rw [hk]; rfl) w; rw [hk] at this; exact this)
    (fun w => ztc_fit n _ _ 118 (fun b c d w c0 f0 c1 c2 c3 => tc_u16_fit n h1 h2 b c d w c0 f0 c1 c2 c3) w) w
theorem itc_u16_lo (n : Int) (h : n < 0) (k : ByteArray) (hk : Kd.of k.toList = .int .u16) (a : Addr) (w : World) (hg : Has w a) : Calls Tryd.prog 11 #[.agg #[.string idealIntS, .int .i64 n, .int .u64 0, .float .f64 0, .string empS], .string k] w (NotPost w) :=
  itc_err n k 118 (by decide) (fun w => by have := zzType_any k (by rw [hk]; rfl) w; rw [hk] at this; exact this)
    (fun w => ztc_err n 118 (fun b c d w c0 c1 c2 c3 => tc_u16_lo n h b c d w c0 c1 c2 c3) w) a w hg
theorem itc_u16_hi (n : Int) (h1 : 0 ≤ n) (h : 65535 < n) (k : ByteArray) (hk : Kd.of k.toList = .int .u16) (a : Addr) (w : World) (hg : Has w a) : Calls Tryd.prog 11 #[.agg #[.string idealIntS, .int .i64 n, .int .u64 0, .float .f64 0, .string empS], .string k] w (NotPost w) :=
  itc_err n k 118 (by decide) (fun w => by have := zzType_any k (by rw [hk]; rfl) w; rw [hk] at this; exact this)
    (fun w => ztc_err n 118 (fun b c d w c0 c1 c2 c3 => tc_u16_hi n h1 h b c d w c0 c1 c2 c3) w) a w hg
theorem itc_u32_in (n : Int) (h1 : 0 ≤ n) (h2 : n ≤ 4294967295) (k : ByteArray) (hk : Kd.of k.toList = .int .u32) (w : World) : Calls Tryd.prog 11 #[.agg #[.string idealIntS, .int .i64 n, .int .u64 0, .float .f64 0, .string empS], .string k] w (ToldPost (.int .u32 n) w) :=
  itc_fit n k .u32 119 (by decide) (by simp [SV.wf, IntKind.min, IntKind.max, IntKind.signed, IntKind.bits]; omega) (fun w => by have := zzType_any k (by rw [hk]; rfl) w; rw [hk] at this; exact this)
    (fun w => ztc_fit n _ _ 119 (fun b c d w c0 f0 c1 c2 c3 => tc_u32_fit n h1 h2 b c d w c0 f0 c1 c2 c3) w) w
theorem itc_u32_lo (n : Int) (h : n < 0) (k : ByteArray) (hk : Kd.of k.toList = .int .u32) (a : Addr) (w : World) (hg : Has w a) : Calls Tryd.prog 11 #[.agg #[.string idealIntS, .int .i64 n, .int .u64 0, .float .f64 0, .string empS], .string k] w (NotPost w) :=
  itc_err n k 119 (by decide) (fun w => by have := zzType_any k (by rw [hk]; rfl) w; rw [hk] at this; exact this)
    (fun w => ztc_err n 119 (fun b c d w c0 c1 c2 c3 => tc_u32_lo n h b c d w c0 c1 c2 c3) w) a w hg
theorem itc_u32_hi (n : Int) (h1 : 0 ≤ n) (h : 4294967295 < n) (k : ByteArray) (hk : Kd.of k.toList = .int .u32) (a : Addr) (w : World) (hg : Has w a) : Calls Tryd.prog 11 #[.agg #[.string idealIntS, .int .i64 n, .int .u64 0, .float .f64 0, .string empS], .string k] w (NotPost w) :=
  itc_err n k 119 (by decide) (fun w => by have := zzType_any k (by rw [hk]; rfl) w; rw [hk] at this; exact this)
    (fun w => ztc_err n 119 (fun b c d w c0 c1 c2 c3 => tc_u32_hi n h1 h b c d w c0 c1 c2 c3) w) a w hg
theorem itc_u64_in (n : Int) (h1 : 0 ≤ n) (h2 : n ≤ 9223372036854775807) (k : ByteArray) (hk : Kd.of k.toList = .int .u64) (w : World) : Calls Tryd.prog 11 #[.agg #[.string idealIntS, .int .i64 n, .int .u64 0, .float .f64 0, .string empS], .string k] w (ToldPost (.int .u64 n) w) :=
  itc_fit n k .u64 120 (by decide) (by simp [SV.wf, IntKind.min, IntKind.max, IntKind.signed, IntKind.bits]; omega) (fun w => by have := zzType_any k (by rw [hk]; rfl) w; rw [hk] at this; exact this)
    (fun w => ztc_fit n _ _ 120 (fun b c d w c0 f0 c1 c2 c3 => tc_u64_fit n h1 h2 b c d w c0 f0 c1 c2 c3) w) w
theorem itc_u64_lo (n : Int) (h : n < 0) (k : ByteArray) (hk : Kd.of k.toList = .int .u64) (a : Addr) (w : World) (hg : Has w a) : Calls Tryd.prog 11 #[.agg #[.string idealIntS, .int .i64 n, .int .u64 0, .float .f64 0, .string empS], .string k] w (NotPost w) :=
  itc_err n k 120 (by decide) (fun w => by have := zzType_any k (by rw [hk]; rfl) w; rw [hk] at this; exact this)
    (fun w => ztc_err n 120 (fun b c d w c0 c1 c2 c3 => tc_u64_lo n h b c d w c0 c1 c2 c3) w) a w hg

def int8T : ByteArray := ⟨#[105, 110, 116, 56]⟩

set_option maxRecDepth 100000 in
set_option maxHeartbeats 1000000 in
theorem checks_any (a : Addr) (w : World) (hg : Has w a) : Calls Tryd.prog 9 #[] w fun e w' => e = .returned (.bool true) ∧ Below w.heap.size w w' := by
  have HN := Lib.hid (itc_i8_hi 300 (by decide) (by decide) int8T (by decide +kernel) a w hg)
  clear hg
  go_enter Tryd.func9, Tryd.ntmps9
  go_wp2_with (go_at_call 11; refine HN.out.mono ?_; rintro e w1 ⟨c, rfl, hc, hb1⟩; have hcb : (c != 0) = true := bne_iff_ne.2 hc; clear hc)
  go_ret
  exact ⟨rfl, hb1.alloc hb1.size _⟩

end Go.Proofs.YtiijcmdfbgoafaaDoor
