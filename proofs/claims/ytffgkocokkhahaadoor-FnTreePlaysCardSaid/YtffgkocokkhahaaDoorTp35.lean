/-
  ql.collate1 of a float32 and a literal float, both ways; of a literal and NULL: some number. PRINTED BY wip/tpl/gen_ycs.py. || ql.collate1 of a concrete value and any value, both ways: some number. PRINTED BY wip/tpl/gen_ycj.py. || impl.in of any value: something that the program has for some value. PRINTED BY wip/tpl/gen_yca.py. || impl.ins of any values. PRINTED BY wip/tpl/gen_yca.py. || ql.collate of a list of concrete values and a list of any, both ways; impl.CollateRows: some number. PRINTED BY wip/tpl/gen_ycd.py.
-/
import Derived.Test.YtffgkocokkhahaaDoorTp28
import Derived.Test.YtffgkocokkhahaaDoorTp29
import Derived.Test.YtffgkocokkhahaaDoorTp30
import Derived.Test.YtffgkocokkhahaaDoorTp31
import Derived.Test.YtffgkocokkhahaaDoorTp32
import Derived.Test.YtffgkocokkhahaaDoorTp33
import Derived.Test.YtffgkocokkhahaaDoorTp34

/- ql.collate1 of a float32 and a literal float, both ways; of a literal and NULL: some number. PRINTED BY wip/tpl/gen_ycs.py. -/
namespace Go.Proofs.YtffgkocokkhahaaDoor
open Go.RowKit

theorem run_nan32I (f : Nat) (h : (Ieee.double.read f).isNaN = true) (W : World) : (convert 252 121 (.float .f64 f)).run Tryd.prog W = .ok (.float .f32 (nan32 W f)) W.drew := by
  have hs : Tryd.prog.underlying 252 = some (.float .f64) := Tryd.underlying252
  have he : FloatKind.f64.decode f = Ieee.double.read f := rfl
  cases hd : Ieee.double.read f with
  | nan s t => simp [convert, run_underlying hs, run_underlying Tryd.underlying121, Conv.floatToFloat, he, hd, Question.forced, nan32]
  | infinity s => rw [hd] at h; cases h
  | number s m p => rw [hd] at h; cases h
theorem run_over32I (f : Nat) (h : (Ieee.single.read (Flt.down f)).isInfinity = true) (h2 : (Ieee.double.read f).isInfinity = false) (h3 : (Ieee.double.read f).isNaN = false) (W : World) :
    (convert 252 121 (.float .f64 f)).run Tryd.prog W = .ok (.float .f32 (over32 W f)) W.drew := by
  have hs : Tryd.prog.underlying 252 = some (.float .f64) := Tryd.underlying252
  have he : FloatKind.f64.decode f = Ieee.double.read f := rfl
  cases hd : Ieee.double.read f with
  | nan s t => rw [hd] at h3; cases h3
  | infinity s => rw [hd] at h2; cases h2
  | number s m p =>
    have hi : (FloatKind.f32.decode (FloatKind.f32.encode (.number s m p))).isInfinity = true := by
      unfold Flt.down at h
      rw [hd] at h
      exact h
    simp [convert, run_underlying hs, run_underlying Tryd.underlying121, Conv.floatToFloat, he, hd, hi, Question.forced, over32]
theorem run_narrowI (f : Nat) (h : ((Ieee.single.read (Flt.down f)).isInfinity && !(Ieee.double.read f).isInfinity) = false) (h3 : (Ieee.double.read f).isNaN = false) (W : World) :
    (convert 252 121 (.float .f64 f)).run Tryd.prog W = .ok (.float .f32 (Flt.down f)) W := by
  refine run_convert_float_float W 252 121 .f64 .f32 f _ (by rw [Tryd.underlying252]; rfl) Tryd.underlying121 ?_
  unfold floatToFloatBits
  rw [if_neg (by decide)]
  have he : FloatKind.f64.decode f = Ieee.double.read f := rfl
  rw [he]
  unfold Flt.down at h ⊢
  cases hd : Ieee.double.read f with
  | nan s t => rw [hd] at h3; cases h3
  | infinity s => rfl
  | number s m p =>
    rw [hd] at h
    have hi : (FloatKind.f32.decode (FloatKind.f32.encode (.number s m p))).isInfinity = false := by
      have h' : ((Ieee.single.read (Ieee.single.write (.number s m p))).isInfinity && !false) = false := h
      exact (by simpa using h' : (Ieee.single.read (Ieee.single.write (.number s m p))).isInfinity = false)
    simp only [hi]
    rfl

set_option maxRecDepth 100000 in
set_option maxHeartbeats 1000000 in
theorem csf_nan (b m : Nat) (h : (Ieee.double.read m).isNaN = true) (w : World) : Calls Tryd.prog 97 #[.iface 121 (.float .f32 b), .iface 252 (.float .f64 m)] w (SomeC w) := by
  have c1 := fun W => run_nan32I m h W
  clear h
  go_enter Tryd.func97, Tryd.ntmps97
  go_wp2
  all_goals
    go_ret
    first
    | exact ⟨_, rfl, Below.refl _ _⟩
    | exact ⟨_, rfl, (Below.refl _ _).drew⟩

set_option maxRecDepth 100000 in
set_option maxHeartbeats 1000000 in
theorem csf_over (b m : Nat) (h1 : (Ieee.single.read (Flt.down m)).isInfinity = true) (h2 : (Ieee.double.read m).isInfinity = false) (h3 : (Ieee.double.read m).isNaN = false) (w : World) : Calls Tryd.prog 97 #[.iface 121 (.float .f32 b), .iface 252 (.float .f64 m)] w (SomeC w) := by
  have c1 := fun W => run_over32I m h1 h2 h3 W
  clear h1 h2 h3
  go_enter Tryd.func97, Tryd.ntmps97
  go_wp2
  all_goals
    go_ret
    first
    | exact ⟨_, rfl, Below.refl _ _⟩
    | exact ⟨_, rfl, (Below.refl _ _).drew⟩

set_option maxRecDepth 100000 in
set_option maxHeartbeats 1000000 in
theorem csf_num (b m : Nat) (h : ((Ieee.single.read (Flt.down m)).isInfinity && !(Ieee.double.read m).isInfinity) = false) (h3 : (Ieee.double.read m).isNaN = false) (w : World) : Calls Tryd.prog 97 #[.iface 121 (.float .f32 b), .iface 252 (.float .f64 m)] w (SomeC w) := by
  have c1 := fun W => run_narrowI m h h3 W
  clear h h3
  go_enter Tryd.func97, Tryd.ntmps97
  go_wp2
  all_goals
    go_ret
    first
    | exact ⟨_, rfl, Below.refl _ _⟩
    | exact ⟨_, rfl, (Below.refl _ _).drew⟩

set_option maxRecDepth 100000 in
set_option maxHeartbeats 1000000 in
theorem cif_num (b m : Nat) (h : (Ieee.single.read b).isNaN = false) (w : World) : Calls Tryd.prog 97 #[.iface 252 (.float .f64 m), .iface 121 (.float .f32 b)] w (SomeC w) := by
  have c1 := fun W => run_wide b h W
  clear h
  go_enter Tryd.func97, Tryd.ntmps97
  go_wp2
  all_goals
    go_ret
    first
    | exact ⟨_, rfl, Below.refl _ _⟩
    | exact ⟨_, rfl, (Below.refl _ _).drew⟩

theorem cs_f32_iFloat (b m : Nat) (u v : Value) (w : World) (hu : Rep w (.f32 b) u) (hv : Rep w (.iFloat m) v) : Calls Tryd.prog 97 #[u, v] w (SomeC w) := by
  obtain rfl : u = _ := hu
  obtain rfl : v = _ := hv
  cases hn : (Ieee.double.read m).isNaN with
  | true => exact csf_nan b m hn w
  | false =>
    cases ho : ((Ieee.single.read (Flt.down m)).isInfinity && !(Ieee.double.read m).isInfinity) with
    | true =>
      simp only [Bool.and_eq_true, Bool.not_eq_true'] at ho
      exact csf_over b m ho.1 ho.2 hn w
    | false => exact csf_num b m ho hn w

theorem cs_iFloat_f32 (m b : Nat) (hp : (SV.f32 b).plain) (u v : Value) (w : World) (hu : Rep w (.iFloat m) u) (hv : Rep w (.f32 b) v) : Calls Tryd.prog 97 #[u, v] w (SomeC w) := by
  obtain rfl : u = _ := hu
  obtain rfl : v = _ := hv
  refine cif_num b m ?_ w
  have h : Ieee.single.order b b = some .eq := hp
  unfold Ieee.Format.order at h
  cases hd : Ieee.single.read b with
  | nan s t => rw [hd] at h; cases h
  | infinity s => rfl
  | number s m p => rfl

set_option maxRecDepth 100000 in
set_option maxHeartbeats 1000000 in
theorem con_iInt (p : Value) (w : World) :
    Calls Tryd.prog 97 #[.iface 249 p, .nilIface] w (SomeC w) := by
  go_enter Tryd.func97, Tryd.ntmps97
  go_wp2
  go_ret
  exact ⟨_, rfl, Below.refl _ _⟩

set_option maxRecDepth 100000 in
set_option maxHeartbeats 1000000 in
theorem con_iRune (p : Value) (w : World) :
    Calls Tryd.prog 97 #[.iface 250 p, .nilIface] w (SomeC w) := by
  go_enter Tryd.func97, Tryd.ntmps97
  go_wp2
  go_ret
  exact ⟨_, rfl, Below.refl _ _⟩

set_option maxRecDepth 100000 in
set_option maxHeartbeats 1000000 in
theorem con_iUint (p : Value) (w : World) :
    Calls Tryd.prog 97 #[.iface 251 p, .nilIface] w (SomeC w) := by
  go_enter Tryd.func97, Tryd.ntmps97
  go_wp2
  go_ret
  exact ⟨_, rfl, Below.refl _ _⟩

set_option maxRecDepth 100000 in
set_option maxHeartbeats 1000000 in
theorem con_iFloat (p : Value) (w : World) :
    Calls Tryd.prog 97 #[.iface 252 p, .nilIface] w (SomeC w) := by
  go_enter Tryd.func97, Tryd.ntmps97
  go_wp2
  go_ret
  exact ⟨_, rfl, Below.refl _ _⟩

end Go.Proofs.YtffgkocokkhahaaDoor

/- ql.collate1 of a concrete value and any value, both ways: some number. PRINTED BY wip/tpl/gen_ycj.py. -/
namespace Go.Proofs.YtffgkocokkhahaaDoor
open Go.RowKit

set_option maxHeartbeats 400000 in
theorem coll1_nolit (x y : SV) (lx : x.isLit = false) (ly : y.isLit = false) (u v : Value) (w : World) (hu : Rep w x u) (hv : Rep w y v) :
    Calls Tryd.prog 97 #[u, v] w (ColP (x.coll y) w) := by
  cases x with
  | iInt n => exact absurd lx (by simp [SV.isLit])
  | iRune n => exact absurd lx (by simp [SV.isLit])
  | iUint n => exact absurd lx (by simp [SV.isLit])
  | iFloat n => exact absurd lx (by simp [SV.isLit])
  | null =>
    obtain rfl : u = _ := hu
    cases y with
    | null => obtain rfl : v = _ := hv; exact colP_of (con_null w)
    | blob l => obtain ⟨a, cap, rfl, _⟩ := hv; exact colP_of (cox_null _ _ w)
    | iInt n => exact absurd ly (by simp [SV.isLit])
    | iRune n => exact absurd ly (by simp [SV.isLit])
    | iUint n => exact absurd ly (by simp [SV.isLit])
    | iFloat n => exact absurd ly (by simp [SV.isLit])
    | _ => obtain rfl : v = _ := hv; exact colP_of (cox_null _ _ w)
  | bool b =>
    cases y with
    | null => obtain rfl : v = _ := hv; obtain rfl : u = _ := hu; exact colP_of (con_bool _ w)
    | iInt n => exact absurd ly (by simp [SV.isLit])
    | iRune n => exact absurd ly (by simp [SV.isLit])
    | iUint n => exact absurd ly (by simp [SV.isLit])
    | iFloat n => exact absurd ly (by simp [SV.isLit])
    | bool c => obtain rfl : u = _ := hu; obtain rfl : v = _ := hv; exact colP_of (col_bool b c w)
    | int k m => exact cou_bool b _ u v w hu hv ly (by cases k <;> simp [SV.rank, kindRank]) (by cases k <;> simp [SV.ty, kindT])
    | _ => exact cou_bool b _ u v w hu hv ly (by simp [SV.rank]) (by simp [SV.ty])
  | f32 b =>
    cases y with
    | null => obtain rfl : v = _ := hv; obtain rfl : u = _ := hu; exact colP_of (con_f32 _ w)
    | iInt n => exact absurd ly (by simp [SV.isLit])
    | iRune n => exact absurd ly (by simp [SV.isLit])
    | iUint n => exact absurd ly (by simp [SV.isLit])
    | iFloat n => exact absurd ly (by simp [SV.isLit])
    | f32 c => obtain rfl : u = _ := hu; obtain rfl : v = _ := hv; exact colP_of (col_f32 b c w)
    | int k m => exact cou_f32 b _ u v w hu hv ly (by cases k <;> simp [SV.rank, kindRank]) (by cases k <;> simp [SV.ty, kindT])
    | _ => exact cou_f32 b _ u v w hu hv ly (by simp [SV.rank]) (by simp [SV.ty])
  | f64 b =>
    cases y with
    | null => obtain rfl : v = _ := hv; obtain rfl : u = _ := hu; exact colP_of (con_f64 _ w)
    | iInt n => exact absurd ly (by simp [SV.isLit])
    | iRune n => exact absurd ly (by simp [SV.isLit])
    | iUint n => exact absurd ly (by simp [SV.isLit])
    | iFloat n => exact absurd ly (by simp [SV.isLit])
    | f64 c => obtain rfl : u = _ := hu; obtain rfl : v = _ := hv; exact colP_of (col_f64 b c w)
    | int k m => exact cou_f64 b _ u v w hu hv ly (by cases k <;> simp [SV.rank, kindRank]) (by cases k <;> simp [SV.ty, kindT])
    | _ => exact cou_f64 b _ u v w hu hv ly (by simp [SV.rank]) (by simp [SV.ty])
  | str b =>
    cases y with
    | null => obtain rfl : v = _ := hv; obtain rfl : u = _ := hu; exact colP_of (con_str _ w)
    | iInt n => exact absurd ly (by simp [SV.isLit])
    | iRune n => exact absurd ly (by simp [SV.isLit])
    | iUint n => exact absurd ly (by simp [SV.isLit])
    | iFloat n => exact absurd ly (by simp [SV.isLit])
    | str c => obtain rfl : u = _ := hu; obtain rfl : v = _ := hv; exact colP_of (col_str b c w)
    | int k m => exact cou_str b _ u v w hu hv ly (by cases k <;> simp [SV.rank, kindRank]) (by cases k <;> simp [SV.ty, kindT])
    | _ => exact cou_str b _ u v w hu hv ly (by simp [SV.rank]) (by simp [SV.ty])
  | blob b =>
    cases y with
    | null => obtain rfl : v = _ := hv; obtain ⟨a, cap, rfl, _⟩ := hu; exact colP_of (con_blob _ w)
    | iInt n => exact absurd ly (by simp [SV.isLit])
    | iRune n => exact absurd ly (by simp [SV.isLit])
    | iUint n => exact absurd ly (by simp [SV.isLit])
    | iFloat n => exact absurd ly (by simp [SV.isLit])
    | blob c => exact col_blob b c u v w hu hv
    | int k m => exact cou_blob b _ u v w hu hv ly (by cases k <;> simp [SV.rank, kindRank]) (by cases k <;> simp [SV.ty, kindT])
    | _ => exact cou_blob b _ u v w hu hv ly (by simp [SV.rank]) (by simp [SV.ty])
  | int k b =>
    cases k
    case i8 =>
      cases y with
      | null => obtain rfl : v = _ := hv; obtain rfl : u = _ := hu; exact colP_of (con_i8 _ w)
      | iInt n => exact absurd ly (by simp [SV.isLit])
      | iRune n => exact absurd ly (by simp [SV.isLit])
      | iUint n => exact absurd ly (by simp [SV.isLit])
      | iFloat n => exact absurd ly (by simp [SV.isLit])
      | int l m =>
        by_cases hl : IntKind.i8 = l
        · subst hl
          obtain rfl : u = _ := hu
          obtain rfl : v = _ := hv
          rw [show SV.coll (.int .i8 b) (.int .i8 m) = three (decide (b < m)) (b == m) from coll_int_same _ _ _]
          exact colP_of (col_i8 b m w)
        · rw [show SV.coll (.int .i8 b) (.int l m) = byRank (.int .i8 b) (.int l m) from if_neg hl]
          exact cou_i8 b _ u v w hu hv ly (by cases l <;> simp [SV.rank, kindRank]) (by cases l <;> first | exact absurd rfl hl | simp [SV.ty, kindT])
      | _ => exact cou_i8 b _ u v w hu hv ly (by simp [SV.rank]) (by simp [SV.ty, kindT])
    case i16 =>
      cases y with
      | null => obtain rfl : v = _ := hv; obtain rfl : u = _ := hu; exact colP_of (con_i16 _ w)
      | iInt n => exact absurd ly (by simp [SV.isLit])
      | iRune n => exact absurd ly (by simp [SV.isLit])
      | iUint n => exact absurd ly (by simp [SV.isLit])
      | iFloat n => exact absurd ly (by simp [SV.isLit])
      | int l m =>
        by_cases hl : IntKind.i16 = l
        · subst hl
          obtain rfl : u = _ := hu
          obtain rfl : v = _ := hv
          rw [show SV.coll (.int .i16 b) (.int .i16 m) = three (decide (b < m)) (b == m) from coll_int_same _ _ _]
          exact colP_of (col_i16 b m w)
        · rw [show SV.coll (.int .i16 b) (.int l m) = byRank (.int .i16 b) (.int l m) from if_neg hl]
          exact cou_i16 b _ u v w hu hv ly (by cases l <;> simp [SV.rank, kindRank]) (by cases l <;> first | exact absurd rfl hl | simp [SV.ty, kindT])
      | _ => exact cou_i16 b _ u v w hu hv ly (by simp [SV.rank]) (by simp [SV.ty, kindT])
    case i32 =>
      cases y with
      | null => obtain rfl : v = _ := hv; obtain rfl : u = _ := hu; exact colP_of (con_i32 _ w)
      | iInt n => exact absurd ly (by simp [SV.isLit])
      | iRune n => exact absurd ly (by simp [SV.isLit])
      | iUint n => exact absurd ly (by simp [SV.isLit])
      | iFloat n => exact absurd ly (by simp [SV.isLit])
      | int l m =>
        by_cases hl : IntKind.i32 = l
        · subst hl
          obtain rfl : u = _ := hu
          obtain rfl : v = _ := hv
          rw [show SV.coll (.int .i32 b) (.int .i32 m) = three (decide (b < m)) (b == m) from coll_int_same _ _ _]
          exact colP_of (col_i32 b m w)
        · rw [show SV.coll (.int .i32 b) (.int l m) = byRank (.int .i32 b) (.int l m) from if_neg hl]
          exact cou_i32 b _ u v w hu hv ly (by cases l <;> simp [SV.rank, kindRank]) (by cases l <;> first | exact absurd rfl hl | simp [SV.ty, kindT])
      | _ => exact cou_i32 b _ u v w hu hv ly (by simp [SV.rank]) (by simp [SV.ty, kindT])
    case i64 =>
      cases y with
      | null => obtain rfl : v = _ := hv; obtain rfl : u = _ := hu; exact colP_of (con_i64 _ w)
      | iInt n => exact absurd ly (by simp [SV.isLit])
      | iRune n => exact absurd ly (by simp [SV.isLit])
      | iUint n => exact absurd ly (by simp [SV.isLit])
      | iFloat n => exact absurd ly (by simp [SV.isLit])
      | int l m =>
        by_cases hl : IntKind.i64 = l
        · subst hl
          obtain rfl : u = _ := hu
          obtain rfl : v = _ := hv
          rw [show SV.coll (.int .i64 b) (.int .i64 m) = three (decide (b < m)) (b == m) from coll_int_same _ _ _]
          exact colP_of (col_i64 b m w)
        · rw [show SV.coll (.int .i64 b) (.int l m) = byRank (.int .i64 b) (.int l m) from if_neg hl]
          exact cou_i64 b _ u v w hu hv ly (by cases l <;> simp [SV.rank, kindRank]) (by cases l <;> first | exact absurd rfl hl | simp [SV.ty, kindT])
      | _ => exact cou_i64 b _ u v w hu hv ly (by simp [SV.rank]) (by simp [SV.ty, kindT])
    case u8 =>
      cases y with
      | null => obtain rfl : v = _ := hv; obtain rfl : u = _ := hu; exact colP_of (con_u8 _ w)
      | iInt n => exact absurd ly (by simp [SV.isLit])
      | iRune n => exact absurd ly (by simp [SV.isLit])
      | iUint n => exact absurd ly (by simp [SV.isLit])
      | iFloat n => exact absurd ly (by simp [SV.isLit])
      | int l m =>
        by_cases hl : IntKind.u8 = l
        · subst hl
          obtain rfl : u = _ := hu
          obtain rfl : v = _ := hv
          rw [show SV.coll (.int .u8 b) (.int .u8 m) = three (decide (b < m)) (b == m) from coll_int_same _ _ _]
          exact colP_of (col_u8 b m w)
        · rw [show SV.coll (.int .u8 b) (.int l m) = byRank (.int .u8 b) (.int l m) from if_neg hl]
          exact cou_u8 b _ u v w hu hv ly (by cases l <;> simp [SV.rank, kindRank]) (by cases l <;> first | exact absurd rfl hl | simp [SV.ty, kindT])
      | _ => exact cou_u8 b _ u v w hu hv ly (by simp [SV.rank]) (by simp [SV.ty, kindT])
    case u16 =>
      cases y with
      | null => obtain rfl : v = _ := hv; obtain rfl : u = _ := hu; exact colP_of (con_u16 _ w)
      | iInt n => exact absurd ly (by simp [SV.isLit])
      | iRune n => exact absurd ly (by simp [SV.isLit])
      | iUint n => exact absurd ly (by simp [SV.isLit])
      | iFloat n => exact absurd ly (by simp [SV.isLit])
      | int l m =>
        by_cases hl : IntKind.u16 = l
        · subst hl
          obtain rfl : u = _ := hu
          obtain rfl : v = _ := hv
          rw [show SV.coll (.int .u16 b) (.int .u16 m) = three (decide (b < m)) (b == m) from coll_int_same _ _ _]
          exact colP_of (col_u16 b m w)
        · rw [show SV.coll (.int .u16 b) (.int l m) = byRank (.int .u16 b) (.int l m) from if_neg hl]
          exact cou_u16 b _ u v w hu hv ly (by cases l <;> simp [SV.rank, kindRank]) (by cases l <;> first | exact absurd rfl hl | simp [SV.ty, kindT])
      | _ => exact cou_u16 b _ u v w hu hv ly (by simp [SV.rank]) (by simp [SV.ty, kindT])
    case u32 =>
      cases y with
      | null => obtain rfl : v = _ := hv; obtain rfl : u = _ := hu; exact colP_of (con_u32 _ w)
      | iInt n => exact absurd ly (by simp [SV.isLit])
      | iRune n => exact absurd ly (by simp [SV.isLit])
      | iUint n => exact absurd ly (by simp [SV.isLit])
      | iFloat n => exact absurd ly (by simp [SV.isLit])
      | int l m =>
        by_cases hl : IntKind.u32 = l
        · subst hl
          obtain rfl : u = _ := hu
          obtain rfl : v = _ := hv
          rw [show SV.coll (.int .u32 b) (.int .u32 m) = three (decide (b < m)) (b == m) from coll_int_same _ _ _]
          exact colP_of (col_u32 b m w)
        · rw [show SV.coll (.int .u32 b) (.int l m) = byRank (.int .u32 b) (.int l m) from if_neg hl]
          exact cou_u32 b _ u v w hu hv ly (by cases l <;> simp [SV.rank, kindRank]) (by cases l <;> first | exact absurd rfl hl | simp [SV.ty, kindT])
      | _ => exact cou_u32 b _ u v w hu hv ly (by simp [SV.rank]) (by simp [SV.ty, kindT])
    case u64 =>
      cases y with
      | null => obtain rfl : v = _ := hv; obtain rfl : u = _ := hu; exact colP_of (con_u64 _ w)
      | iInt n => exact absurd ly (by simp [SV.isLit])
      | iRune n => exact absurd ly (by simp [SV.isLit])
      | iUint n => exact absurd ly (by simp [SV.isLit])
      | iFloat n => exact absurd ly (by simp [SV.isLit])
      | int l m =>
        by_cases hl : IntKind.u64 = l
        · subst hl
          obtain rfl : u = _ := hu
          obtain rfl : v = _ := hv
          rw [show SV.coll (.int .u64 b) (.int .u64 m) = three (decide (b < m)) (b == m) from coll_int_same _ _ _]
          exact colP_of (col_u64 b m w)
        · rw [show SV.coll (.int .u64 b) (.int l m) = byRank (.int .u64 b) (.int l m) from if_neg hl]
          exact cou_u64 b _ u v w hu hv ly (by cases l <;> simp [SV.rank, kindRank]) (by cases l <;> first | exact absurd rfl hl | simp [SV.ty, kindT])
      | _ => exact cou_u64 b _ u v w hu hv ly (by simp [SV.rank]) (by simp [SV.ty, kindT])

theorem SomeC.of_col {c : Int} {u v : Value} {w : World} (h : Calls Tryd.prog 97 #[u, v] w (ColP c w)) : Calls Tryd.prog 97 #[u, v] w (SomeC w) :=
  h.mono fun _ _ ⟨h1, h2⟩ => ⟨c, h1, h2⟩
theorem SomeC.of_eq {c : Int} {u v : Value} {w : World} (h : Calls Tryd.prog 97 #[u, v] w fun e w' => e = .returned (.int .i64 c) ∧ w = w') : Calls Tryd.prog 97 #[u, v] w (SomeC w) :=
  SomeC.of_col (colP_of h)

theorem cs_any (x y : SV) (px : x.plain) (u v : Value) (w : World) (hu : Rep w x u) (hv : Rep w y v) :
    Calls Tryd.prog 97 #[u, v] w (SomeC w) := by
  have lx := plain_lit px
  cases y with
  | iInt m =>
    cases x with
    | iInt n => exact px.elim
    | iRune n => exact px.elim
    | iUint n => exact px.elim
    | iFloat n => exact px.elim
    | null => obtain rfl : u = _ := hu; obtain rfl : v = _ := hv; exact SomeC.of_eq (cox_null _ _ w)
    | bool b => exact cs_bool_iInt b m u v w hu hv
    | str b => exact cs_str_iInt b m u v w hu hv
    | f64 b => exact cs_f64_iInt b m u v w hu hv
    | blob b => exact cs_blob_iInt b m u v w hu hv
    | f32 b => exact cs_f32_iInt b m u v w hu hv
    | int q b => exact cs_int_iInt q b m u v w hu hv
  | iRune m =>
    cases x with
    | iInt n => exact px.elim
    | iRune n => exact px.elim
    | iUint n => exact px.elim
    | iFloat n => exact px.elim
    | null => obtain rfl : u = _ := hu; obtain rfl : v = _ := hv; exact SomeC.of_eq (cox_null _ _ w)
    | bool b => exact cs_bool_iRune b m u v w hu hv
    | str b => exact cs_str_iRune b m u v w hu hv
    | f64 b => exact cs_f64_iRune b m u v w hu hv
    | blob b => exact cs_blob_iRune b m u v w hu hv
    | f32 b => exact cs_f32_iRune b m u v w hu hv
    | int q b => exact cs_int_iRune q b m u v w hu hv
  | iUint m =>
    cases x with
    | iInt n => exact px.elim
    | iRune n => exact px.elim
    | iUint n => exact px.elim
    | iFloat n => exact px.elim
    | null => obtain rfl : u = _ := hu; obtain rfl : v = _ := hv; exact SomeC.of_eq (cox_null _ _ w)
    | bool b => exact cs_bool_iUint b m u v w hu hv
    | str b => exact cs_str_iUint b m u v w hu hv
    | f64 b => exact cs_f64_iUint b m u v w hu hv
    | blob b => exact cs_blob_iUint b m u v w hu hv
    | f32 b => exact cs_f32_iUint b m u v w hu hv
    | int q b => exact cs_int_iUint q b m u v w hu hv
  | iFloat m =>
    cases x with
    | iInt n => exact px.elim
    | iRune n => exact px.elim
    | iUint n => exact px.elim
    | iFloat n => exact px.elim
    | null => obtain rfl : u = _ := hu; obtain rfl : v = _ := hv; exact SomeC.of_eq (cox_null _ _ w)
    | bool b => exact cs_bool_iFloat b m u v w hu hv
    | str b => exact cs_str_iFloat b m u v w hu hv
    | f64 b => exact cs_f64_iFloat b m u v w hu hv
    | blob b => exact cs_blob_iFloat b m u v w hu hv
    | f32 b => exact cs_f32_iFloat b m u v w hu hv
    | int q b => exact cs_int_iFloat q b m u v w hu hv
  | _ => exact SomeC.of_col (coll1_nolit _ _ lx rfl u v w hu hv)

theorem sc_any (x y : SV) (px : x.plain) (u v : Value) (w : World) (hu : Rep w x u) (hv : Rep w y v) :
    Calls Tryd.prog 97 #[v, u] w (SomeC w) := by
  have lx := plain_lit px
  cases y with
  | iInt m =>
    cases x with
    | iInt n => exact px.elim
    | iRune n => exact px.elim
    | iUint n => exact px.elim
    | iFloat n => exact px.elim
    | null => obtain rfl : u = _ := hu; obtain rfl : v = _ := hv; exact con_iInt _ w
    | bool b => exact cs_iInt_bool m b v u w hv hu
    | str b => exact cs_iInt_str m b v u w hv hu
    | f64 b => exact cs_iInt_f64 m b v u w hv hu
    | blob b => exact cs_iInt_blob m b v u w hv hu
    | f32 b => exact cs_iInt_f32 m b v u w hv hu
    | int q b => exact cs_iInt_int m q b v u w hv hu
  | iRune m =>
    cases x with
    | iInt n => exact px.elim
    | iRune n => exact px.elim
    | iUint n => exact px.elim
    | iFloat n => exact px.elim
    | null => obtain rfl : u = _ := hu; obtain rfl : v = _ := hv; exact con_iRune _ w
    | bool b => exact cs_iRune_bool m b v u w hv hu
    | str b => exact cs_iRune_str m b v u w hv hu
    | f64 b => exact cs_iRune_f64 m b v u w hv hu
    | blob b => exact cs_iRune_blob m b v u w hv hu
    | f32 b => exact cs_iRune_f32 m b v u w hv hu
    | int q b => exact cs_iRune_int m q b v u w hv hu
  | iUint m =>
    cases x with
    | iInt n => exact px.elim
    | iRune n => exact px.elim
    | iUint n => exact px.elim
    | iFloat n => exact px.elim
    | null => obtain rfl : u = _ := hu; obtain rfl : v = _ := hv; exact con_iUint _ w
    | bool b => exact cs_iUint_bool m b v u w hv hu
    | str b => exact cs_iUint_str m b v u w hv hu
    | f64 b => exact cs_iUint_f64 m b v u w hv hu
    | blob b => exact cs_iUint_blob m b v u w hv hu
    | f32 b => exact cs_iUint_f32 m b v u w hv hu
    | int q b => exact cs_iUint_int m q b v u w hv hu
  | iFloat m =>
    cases x with
    | iInt n => exact px.elim
    | iRune n => exact px.elim
    | iUint n => exact px.elim
    | iFloat n => exact px.elim
    | null => obtain rfl : u = _ := hu; obtain rfl : v = _ := hv; exact con_iFloat _ w
    | bool b => exact cs_iFloat_bool m b v u w hv hu
    | str b => exact cs_iFloat_str m b v u w hv hu
    | f64 b => exact cs_iFloat_f64 m b v u w hv hu
    | blob b => exact cs_iFloat_blob m b v u w hv hu
    | f32 b => exact cs_iFloat_f32 m b px v u w hv hu
    | int q b => exact cs_iFloat_int m q b v u w hv hu
  | _ => exact SomeC.of_col (coll1_nolit _ _ rfl lx v u w hv hu)

end Go.Proofs.YtffgkocokkhahaaDoor

/- impl.in of any value: something that the program has for some value. PRINTED BY wip/tpl/gen_yca.py. -/
namespace Go.Proofs.YtffgkocokkhahaaDoor
open Go.RowKit

/-- Some value, and where its memory begins. -/
def InE (w : World) (e : Ending) (w' : World) : Prop := ∃ v y, e = .returned v ∧ Rep w' y v ∧ Below w.heap.size w w' ∧ From w.heap.size v

theorem InE.of {w w' : World} {e : Ending} {v : Value} {y : SV} (he : e = .returned v) (hr : Rep w' y v) (hb : Below w.heap.size w w') (hy : ∀ l, y ≠ .blob l) : InE w e w' := by
  refine ⟨v, y, he, hr, hb, ?_⟩
  intro t a n c h
  subst h
  exfalso
  cases y with
  | blob l => exact hy l rfl
  | _ => exact absurd hr (by simp [Rep])

set_option maxRecDepth 100000 in
set_option maxHeartbeats 1000000 in
theorem inE_i8 (k : ByteArray) (hk : Kd.of k.toList = (.int .i8)) (n u : Int) (f : Nat) (s : ByteArray) (w : World) :
    Calls Tryd.prog 64 #[.agg #[.string k, .int .i64 n, .int .u64 u, .float .f64 f, .string s]] w fun e w' => (∃ z, e = .returned (.iface 199 (.int .i8 z))) ∧ Below w.heap.size w w' := by
  have hl := Kd.of_lit _ hk (by simp)
  clear hk
  simp only [Kd.lit] at hl
  go_enter Tryd.func64, Tryd.ntmps64
  go_wp2_with (fail)
  go_ret
  exact ⟨⟨_, rfl⟩, (Below.refl _ _).alloc (Nat.le_refl _) _⟩

set_option maxRecDepth 100000 in
set_option maxHeartbeats 1000000 in
theorem inE_i16 (k : ByteArray) (hk : Kd.of k.toList = (.int .i16)) (n u : Int) (f : Nat) (s : ByteArray) (w : World) :
    Calls Tryd.prog 64 #[.agg #[.string k, .int .i64 n, .int .u64 u, .float .f64 f, .string s]] w fun e w' => (∃ z, e = .returned (.iface 200 (.int .i16 z))) ∧ Below w.heap.size w w' := by
  have hl := Kd.of_lit _ hk (by simp)
  clear hk
  simp only [Kd.lit] at hl
  go_enter Tryd.func64, Tryd.ntmps64
  go_wp2_with (fail)
  go_ret
  exact ⟨⟨_, rfl⟩, (Below.refl _ _).alloc (Nat.le_refl _) _⟩

set_option maxRecDepth 100000 in
set_option maxHeartbeats 1000000 in
theorem inE_i32 (k : ByteArray) (hk : Kd.of k.toList = (.int .i32)) (n u : Int) (f : Nat) (s : ByteArray) (w : World) :
    Calls Tryd.prog 64 #[.agg #[.string k, .int .i64 n, .int .u64 u, .float .f64 f, .string s]] w fun e w' => (∃ z, e = .returned (.iface 21 (.int .i32 z))) ∧ Below w.heap.size w w' := by
  have hl := Kd.of_lit _ hk (by simp)
  clear hk
  simp only [Kd.lit] at hl
  go_enter Tryd.func64, Tryd.ntmps64
  go_wp2_with (fail)
  go_ret
  exact ⟨⟨_, rfl⟩, (Below.refl _ _).alloc (Nat.le_refl _) _⟩

set_option maxRecDepth 100000 in
set_option maxHeartbeats 1000000 in
theorem inE_u8 (k : ByteArray) (hk : Kd.of k.toList = (.int .u8)) (n u : Int) (f : Nat) (s : ByteArray) (w : World) :
    Calls Tryd.prog 64 #[.agg #[.string k, .int .i64 n, .int .u64 u, .float .f64 f, .string s]] w fun e w' => (∃ z, e = .returned (.iface 5 (.int .u8 z))) ∧ Below w.heap.size w w' := by
  have hl := Kd.of_lit _ hk (by simp)
  clear hk
  simp only [Kd.lit] at hl
  go_enter Tryd.func64, Tryd.ntmps64
  go_wp2_with (fail)
  go_ret
  exact ⟨⟨_, rfl⟩, (Below.refl _ _).alloc (Nat.le_refl _) _⟩

set_option maxRecDepth 100000 in
set_option maxHeartbeats 1000000 in
theorem inE_u16 (k : ByteArray) (hk : Kd.of k.toList = (.int .u16)) (n u : Int) (f : Nat) (s : ByteArray) (w : World) :
    Calls Tryd.prog 64 #[.agg #[.string k, .int .i64 n, .int .u64 u, .float .f64 f, .string s]] w fun e w' => (∃ z, e = .returned (.iface 201 (.int .u16 z))) ∧ Below w.heap.size w w' := by
  have hl := Kd.of_lit _ hk (by simp)
  clear hk
  simp only [Kd.lit] at hl
  go_enter Tryd.func64, Tryd.ntmps64
  go_wp2_with (fail)
  go_ret
  exact ⟨⟨_, rfl⟩, (Below.refl _ _).alloc (Nat.le_refl _) _⟩

set_option maxRecDepth 100000 in
set_option maxHeartbeats 1000000 in
theorem inE_u32 (k : ByteArray) (hk : Kd.of k.toList = (.int .u32)) (n u : Int) (f : Nat) (s : ByteArray) (w : World) :
    Calls Tryd.prog 64 #[.agg #[.string k, .int .i64 n, .int .u64 u, .float .f64 f, .string s]] w fun e w' => (∃ z, e = .returned (.iface 156 (.int .u32 z))) ∧ Below w.heap.size w w' := by
  have hl := Kd.of_lit _ hk (by simp)
  clear hk
  simp only [Kd.lit] at hl
  go_enter Tryd.func64, Tryd.ntmps64
  go_wp2_with (fail)
  go_ret
  exact ⟨⟨_, rfl⟩, (Below.refl _ _).alloc (Nat.le_refl _) _⟩

set_option maxRecDepth 100000 in
set_option maxHeartbeats 1000000 in
theorem inE_iRune (k : ByteArray) (hk : Kd.of k.toList = .iRune) (n u : Int) (f : Nat) (s : ByteArray) (w : World) :
    Calls Tryd.prog 64 #[.agg #[.string k, .int .i64 n, .int .u64 u, .float .f64 f, .string s]] w fun e w' => (∃ z, e = .returned (.iface 250 (.int .i32 z))) ∧ Below w.heap.size w w' := by
  have hl := Kd.of_lit _ hk (by simp)
  clear hk
  simp only [Kd.lit] at hl
  go_enter Tryd.func64, Tryd.ntmps64
  go_wp2_with go_in
  go_ret
  exact ⟨⟨_, rfl⟩, (Below.refl _ _).alloc (Nat.le_refl _) _⟩

set_option maxRecDepth 100000 in
set_option maxHeartbeats 1000000 in
theorem inE_other (k : ByteArray) (hk : Kd.of k.toList = .other) (n u : Int) (f : Nat) (s : ByteArray) (w : World) :
    Calls Tryd.prog 64 #[.agg #[.string k, .int .i64 n, .int .u64 u, .float .f64 f, .string s]] w fun e w' => e = .returned .nilIface ∧ Below w.heap.size w w' := by
  obtain ⟨h1, h2, h3, h4, h5, h6, h7, h8, h9, h10, h11, h12, h13, h14, h15, h16, h17, h18⟩ := Kd.of_other _ hk
  clear hk
  go_enter Tryd.func64, Tryd.ntmps64
  go_wp2_with (fail)
  go_ret
  exact ⟨rfl, (Below.refl _ _).alloc (Nat.le_refl _) _⟩

set_option maxRecDepth 100000 in
set_option maxHeartbeats 1000000 in
theorem inE_f32o (k : ByteArray) (hk : Kd.of k.toList = .f32) (n u : Int) (f : Nat) (s : ByteArray) (h1 : (Ieee.single.read (Flt.down f)).isInfinity = true) (h2 : (Ieee.double.read f).isInfinity = false) (h3 : (Ieee.double.read f).isNaN = false) (w : World) :
    Calls Tryd.prog 64 #[.agg #[.string k, .int .i64 n, .int .u64 u, .float .f64 f, .string s]] w fun e w' => (∃ z, e = .returned (.iface 121 (.float .f32 z))) ∧ Below w.heap.size w w' := by
  have hl := Kd.of_lit _ hk (by simp)
  clear hk
  simp only [Kd.lit] at hl
  have c1 := fun W => run_over32 f h1 h2 h3 W
  clear h1 h2 h3
  go_enter Tryd.func64, Tryd.ntmps64
  go_wp2
  go_ret
  exact ⟨⟨_, rfl⟩, ((Below.refl _ _).alloc (Nat.le_refl _) _).drew⟩

theorem inE_any (x : VV) (hg : Rng x.n x.u x.f) (w : World) : Calls Tryd.prog 64 #[.agg #[.string x.k, .int .i64 x.n, .int .u64 x.u, .float .f64 x.f, .string x.s]] w (InE w) := by
  by_cases hv : validB (Kd.of x.k.toList) x.n x.u x.f x.s = true
  · exact (in2_any x ⟨hg, hv⟩ w).mono fun e w' ⟨v, y, h1, h2, h3, _, h5⟩ => ⟨v, y, h1, h2, h3, h5⟩
  cases hk : Kd.of x.k.toList with
  | blob =>
    refine (in_blob x.k hk x.n x.u x.f x.s w).mono fun e w' ⟨b, cap, he, hlo, hlt, hb, hc⟩ => ⟨_, .blob x.s.data.toList, he, ?_, hb, ?_⟩
    · refine ⟨⟨b, 0, none⟩, cap, rfl, hlt, fun j hj => ?_⟩
      have ha : Addr.add ⟨b, 0, none⟩ j = ⟨b, j, none⟩ := by
        unfold Addr.add
        split
        · rename_i h0; subst h0; rfl
        · simp
      rw [ha, hc j]
      unfold bytesRow
      have hj' : j < x.s.data.size := by simpa using hj
      rw [Array.getElem?_append_left (by simpa using hj')]
      simp
      exact ⟨x.s.data[j], Array.getElem?_eq_getElem hj', rfl⟩
    · intro t a n c h
      injection h with _ h
      injection h with h
      injection h with h
      subst h
      exact hlo
  | other => exact (inE_other x.k hk x.n x.u x.f x.s w).mono fun e w' ⟨he, hb⟩ => InE.of (y := .null) he rfl hb (fun l h => by cases h)
  | null => exact (in_null x.k hk x.n x.u x.f x.s w).mono fun e w' ⟨he, hb⟩ => InE.of (y := .null) he rfl hb (fun l h => by cases h)
  | bool => exact (in_bool x.k hk x.n x.u x.f x.s w).mono fun e w' ⟨he, hb⟩ => InE.of (y := .bool (x.n != 0)) he rfl hb (fun l h => by cases h)
  | int q =>
    cases q with
    | i8 => exact (inE_i8 x.k hk x.n x.u x.f x.s w).mono fun e w' ⟨⟨z, he⟩, hb⟩ => InE.of (y := .int .i8 z) he rfl hb (fun l h => by cases h)
    | i16 => exact (inE_i16 x.k hk x.n x.u x.f x.s w).mono fun e w' ⟨⟨z, he⟩, hb⟩ => InE.of (y := .int .i16 z) he rfl hb (fun l h => by cases h)
    | i32 => exact (inE_i32 x.k hk x.n x.u x.f x.s w).mono fun e w' ⟨⟨z, he⟩, hb⟩ => InE.of (y := .int .i32 z) he rfl hb (fun l h => by cases h)
    | u8 => exact (inE_u8 x.k hk x.n x.u x.f x.s w).mono fun e w' ⟨⟨z, he⟩, hb⟩ => InE.of (y := .int .u8 z) he rfl hb (fun l h => by cases h)
    | u16 => exact (inE_u16 x.k hk x.n x.u x.f x.s w).mono fun e w' ⟨⟨z, he⟩, hb⟩ => InE.of (y := .int .u16 z) he rfl hb (fun l h => by cases h)
    | u32 => exact (inE_u32 x.k hk x.n x.u x.f x.s w).mono fun e w' ⟨⟨z, he⟩, hb⟩ => InE.of (y := .int .u32 z) he rfl hb (fun l h => by cases h)
    | i64 => exact (in_i64 x.k hk x.n x.u x.f x.s w).mono fun e w' ⟨he, hb⟩ => InE.of (y := .int .i64 x.n) he rfl hb (fun l h => by cases h)
    | u64 => exact (in_u64 x.k hk x.n x.u x.f x.s w).mono fun e w' ⟨he, hb⟩ => InE.of (y := .int .u64 x.u) he rfl hb (fun l h => by cases h)
  | f32 =>
    cases hn : (Ieee.double.read x.f).isNaN with
    | true => exact (in_f32_nan x.k hk x.n x.u x.f x.s hn w).mono fun e w' ⟨W, he, hb⟩ => InE.of (y := .f32 (nan32 W x.f)) he rfl hb (fun l h => by cases h)
    | false =>
      cases ho : ((Ieee.single.read (Flt.down x.f)).isInfinity && !(Ieee.double.read x.f).isInfinity) with
      | true =>
        simp only [Bool.and_eq_true, Bool.not_eq_true'] at ho
        exact (inE_f32o x.k hk x.n x.u x.f x.s ho.1 ho.2 hn w).mono fun e w' ⟨⟨z, he⟩, hb⟩ => InE.of (y := .f32 z) he rfl hb (fun l h => by cases h)
      | false => exact (in_f32 x.k hk x.n x.u x.f x.s ho hn w).mono fun e w' ⟨he, hb⟩ => InE.of (y := .f32 (Flt.down x.f)) he rfl hb (fun l h => by cases h)
  | f64 => exact (in_f64 x.k hk x.n x.u x.f x.s w).mono fun e w' ⟨he, hb⟩ => InE.of (y := .f64 x.f) he rfl hb (fun l h => by cases h)
  | str => exact (in_str x.k hk x.n x.u x.f x.s w).mono fun e w' ⟨he, hb⟩ => InE.of (y := .str x.s) he rfl hb (fun l h => by cases h)
  | iInt => exact (in_iInt x.k hk x.n x.u x.f x.s w).mono fun e w' ⟨he, hb⟩ => InE.of (y := .iInt x.n) he rfl hb (fun l h => by cases h)
  | iRune => exact (inE_iRune x.k hk x.n x.u x.f x.s w).mono fun e w' ⟨⟨z, he⟩, hb⟩ => InE.of (y := .iRune z) he rfl hb (fun l h => by cases h)
  | iUint => exact (in_iUint x.k hk x.n x.u x.f x.s w).mono fun e w' ⟨he, hb⟩ => InE.of (y := .iUint x.u) he rfl hb (fun l h => by cases h)
  | iFloat => exact (in_iFloat x.k hk x.n x.u x.f x.s w).mono fun e w' ⟨he, hb⟩ => InE.of (y := .iFloat x.f) he rfl hb (fun l h => by cases h)

end Go.Proofs.YtffgkocokkhahaaDoor

/- impl.ins of any values. PRINTED BY wip/tpl/gen_yca.py. -/
namespace Go.Proofs.YtffgkocokkhahaaDoor
open Go.RowKit

/-- The first k values as the program has them. -/
def RepE (w : World) (l : List VV) (k : Nat) (vs : List Value) : Prop :=
  vs.length = k ∧ ∀ (j : Nat) (x : VV) (v : Value), l[j]? = some x → vs[j]? = some v → ∃ y, True ∧ Rep w y v

theorem RepE.below {w w' : World} {l : List VV} {k : Nat} {vs : List Value} (h : RepE w l k vs) (hb : Below w.heap.size w w') : RepE w' l k vs :=
  ⟨h.1, fun j x v hx hv => by obtain ⟨y, h1, h2⟩ := h.2 j x v hx hv; exact ⟨y, h1, h2.below hb⟩⟩

theorem insE_step {B E : Nat} {w wr w1 w2 : World} {l : List VV} {k : Nat} {vs : List Value} {r v v' : Value} {x : VV} {y : SV} {o o2 : Obj}
    (hown : wr.ownsRow B E 1 r k vs) (hB : B ≤ wr.heap.size) (hrep : RepE wr l k vs) (hap : Apart vs r.ownBlock) (hl : k < l.length) (hx : l[k]? = some x)
    (hb1 : Below (wr.alloc o).heap.size (wr.alloc o) w1) (hrv : Rep w1 y v) (hsv : True) (hnew : From (wr.alloc o).heap.size v)
    (hg2 : (w1.alloc o2).grownBy w2 r.ownBlock) (hat : v'.ownBlock = r.ownBlock ∨ v'.ownBlock = some (w1.alloc o2).heap.size) (hbw : Below B w wr) :
    RepE w2 l (k + 1) (vs ++ [v]) ∧ Apart (vs ++ [v]) v'.ownBlock ∧ Below B w w2 := by
  have hbA : Below wr.heap.size wr (w1.alloc o2) := ((((Below.refl _ _).alloc (Nat.le_refl _) o).trans (hb1.mono (by simp))).alloc (by have := hb1.size; simp at this; omega) o2)
  have hown0 : ∀ g, r.ownBlock = some g → B ≤ g ∧ g < wr.heap.size := hown.lt
  have hvlt : ∀ t a n c, v = .iface t (.slice (some a) n c) → some a.block ≠ r.ownBlock := by
    intro t a n c hv he
    have h1 := hnew t a n c hv
    have h2 := (hown0 _ he.symm).2
    simp at h1
    omega
  have hold : ∀ (j : Nat) (x : VV) (v : Value), l[j]? = some x → vs[j]? = some v → ∃ y, True ∧ Rep (w1.alloc o2) y v := fun j x v hx hv => by
    obtain ⟨y, h1, h2⟩ := hrep.2 j x v hx hv
    exact ⟨y, h1, h2.below hbA⟩
  have hnewR : Rep (w1.alloc o2) y v := hrv.below ((Below.refl _ _).alloc (Nat.le_refl _) _)
  refine ⟨⟨by rw [List.length_append, hrep.1]; rfl, fun j z u hz hu => ?_⟩, fun j u hu t a n c hv => ?_, ?_⟩
  · rcases Nat.lt_or_ge j k with hj | hj
    · rw [List.getElem?_append_left (by rw [hrep.1]; exact hj)] at hu
      obtain ⟨y', h1, h2⟩ := hold j z u hz hu
      exact ⟨y', h1, h2.grown hg2 (hap j u hu)⟩
    · rw [List.getElem?_append_right (by rw [hrep.1]; exact hj), hrep.1] at hu
      have hjk : j = k := by
        rcases Nat.eq_or_lt_of_le hj with h | h
        · exact h.symm
        · rw [List.getElem?_eq_none (by simp; omega)] at hu; cases hu
      subst hjk
      rw [Nat.sub_self] at hu
      obtain rfl : u = v := (Option.some.inj hu).symm
      obtain rfl : z = x := Option.some.inj (hz.symm.trans hx)
      exact ⟨y, hsv, hnewR.grown hg2 hvlt⟩
  · have hlt : a.block < (w1.alloc o2).heap.size ∧ some a.block ≠ r.ownBlock := by
      rcases Nat.lt_or_ge j k with hj | hj
      · rw [List.getElem?_append_left (by rw [hrep.1]; exact hj)] at hu
        obtain ⟨y', _, h2⟩ := hold j l[j] u (List.getElem?_eq_getElem (by omega)) hu
        exact ⟨rep_lt h2 hv, hap j u hu t a n c hv⟩
      · rw [List.getElem?_append_right (by rw [hrep.1]; exact hj), hrep.1] at hu
        have hjk : j - k = 0 := by
          rcases Nat.eq_zero_or_pos (j - k) with h | h
          · exact h
          · rw [List.getElem?_eq_none (by simp; omega)] at hu; cases hu
        rw [hjk] at hu
        obtain rfl : u = v := (Option.some.inj hu).symm
        exact ⟨rep_lt hnewR hv, hvlt t a n c hv⟩
    rcases hat with h | h
    · rw [h]; exact hlt.2
    · rw [h]
      intro he
      have := Option.some.inj he
      omega
  · exact (hbw.trans (hbA.mono hB)).grown hg2 (by have := hbA.size; omega) (fun g hg => (hown0 g hg).1)


/-- A list of any values as the program has it. -/
def InsE (l : List VV) (w : World) (e : Ending) (w' : World) : Prop :=
  ∃ A c vs, e = .returned (.slice A l.length c) ∧ Reads w' w'.heap.size 1 A l.length vs ∧ RepE w' l l.length vs ∧ Below w.heap.size w w'

set_option maxHeartbeats 1000000 in
theorem insE_any (l : List VV) (A : Option Addr) (c : Nat) (w : World) (hl : LAt w A l) (hgood : ∀ (j : Nat) (x : VV), l[j]? = some x → Rng x.n x.u x.f) (hm : l.length ≤ 2147483647) :
    Calls Tryd.prog 29 #[.slice A l.length c] w (InsE l w) := by
  obtain ⟨i0, hi, hz0, hz1, hz2⟩ := info_parts info_iface
  obtain ⟨len, hlen⟩ : ∃ len, len = l.length := ⟨_, rfl⟩
  have HL := Lib.hid hl
  have HN := Lib.hid hlen
  have HI := Lib.hid (fun (x : VV) (hg : Rng x.n x.u x.f) w => inE_any x hg w)
  have HG := Lib.hid hgood
  unfold InsE
  rw [← hlen] at hm ⊢
  clear hl hlen hgood
  go_enter Tryd.func29, Tryd.ntmps29
  go_wp2
  go_loopw [3, 8] (fun r i wr => ∃ (k : Nat) (vs : List Value), k ≤ len ∧ i = .int .i64 k ∧ wr.ownsRow w.heap.size 20 1 r k vs ∧ RepE wr l k vs ∧ Apart vs r.ownBlock ∧ Below w.heap.size w wr) (fun _ i _ => len - (intOf i).toNat)
  case atStart => exact ⟨0, [], by omega, rfl, World.ownsRow_nil _ _ _ _, ⟨rfl, fun j x v _ h => by simp at h⟩, fun j v h => by simp at h, Below.refl _ _⟩
  case round =>
    obtain ⟨k, vs, hk, rfl, hown, hrep, hap, hb⟩ := hrel
    have HO := Lib.hid hown
    have HR := Lib.hid hrep
    have HP := Lib.hid hap
    have HB := Lib.hid hb
    have hs := hb.size
    clear hown hrep hap
    by_cases hlt : k < len
    · have hlt2 : k < l.length := by rw [← HN.out]; exact hlt
      obtain ⟨x, hx'⟩ : ∃ x, l[k]? = some x := ⟨_, List.getElem?_eq_getElem hlt2⟩
      have HX := Lib.hid hx'
      have HX2 := Lib.hid (HI.out x (HG.out k x hx'))
      have HT := Lib.hid hlt2
      obtain ⟨ad, rfl, hbl, h0, h1, h2, h3, h4⟩ := (HL.out.below hb) k x hx'
      clear hx' hlt2 hb
      go_wp2_with (first
        | (go_at_call 64; refine (HX2.out _).mono ?_; rintro e w1 ⟨v, y, rfl, hrv, hb1, hnew⟩; have hsv : True := trivial; have HV := Lib.hid hrv; have HS := Lib.hid hsv; have HW := Lib.hid hnew; have HB1 := Lib.hid hb1; clear hsv hnew hb1; rcases rep_form hrv with rfl | ⟨tv, uv, rfl⟩ <;> clear hrv)
        | (at_builtin
           refine wpList_append_any _ rfl (.tmp 12) (.tmp 15) _ rfl w.heap.size 20 i0 _ 1 16 Tryd.underlying77 hi hz0 hz1 hz2 rfl (by omega) u3 k vs rfl
             ((own_below (HO.out.alloc _) HB1.out).alloc _) (w1.heap.size + 1) (some ⟨w1.heap.size, 0, none⟩) 1 1 [_] rfl (reads_new _ _ _) (fun u hu => by simp at hu; subst hu; exact rep_one HV.out) (by simp only [maxLen]; omega) (by omega) (by have := HB1.out.size; simp at this ⊢; omega) ?_
           intro v2 w2 hown2 hg2 hat2
           have HO2 := Lib.hid hown2; have HG2 := Lib.hid hg2; have HA2 := Lib.hid hat2; clear hown2 hg2 hat2))
      all_goals
        have R := insE_step HO.out HB.out.size HR.out HP.out HT.out HX.out HB1.out HV.out HS.out HW.out HG2.out HA2.out HB.out
        exact ⟨⟨k + 1, _, by omega, by push_cast; rfl, HO2.out, R.1, R.2.1, R.2.2⟩, by simp [intOf]; omega⟩
    · have hke : k = len := by omega
      subst hke
      obtain ⟨A', c', rfl⟩ := own_form HO.out
      go_wp2
      go_ret
      exact ⟨A', c', vs, rfl, Reads.of_own HO.out, HR.out, HB.out⟩

end Go.Proofs.YtffgkocokkhahaaDoor

/- ql.collate of a list of concrete values and a list of any, both ways; impl.CollateRows: some number. PRINTED BY wip/tpl/gen_ycd.py. -/
namespace Go.Proofs.YtffgkocokkhahaaDoor
open Go.RowKit

/-- A slice of as many cells that are each what the program has for a value of the list's; Q says more of that value. -/
def Vals (w : World) (A : Option Addr) (n : Nat) (Q : SV → Prop) : Prop := ∀ k, k < n → ∃ ad u y, A = some ad ∧ (ad.add k).block < w.heap.size ∧ w.cell? (ad.add k) = some u ∧ Rep w y u ∧ Q y

theorem Vals.below {w w' : World} {A : Option Addr} {n : Nat} {Q : SV → Prop} (h : Vals w A n Q) (hb : Below w.heap.size w w') : Vals w' A n Q := by
  intro k hk
  obtain ⟨ad, u, y, hA, hlt, hc, hr, hq⟩ := h k hk
  exact ⟨ad, u, y, hA, Nat.lt_of_lt_of_le hlt hb.size, (hb.cell hlt).trans hc, hr.below hb, hq⟩

theorem vals_ins {w : World} {l : List VV} {A : Option Addr} {c : Nat} (hl : ConcL l) (h : Ins w l (.slice A l.length c)) : Vals w A l.length SV.plain := by
  obtain ⟨A', c', vs, hv, h1, h2⟩ := h
  injection hv with hA
  subst hA
  intro k hk
  obtain ⟨ad, u, hA, hlt, hu, hc⟩ := h1.at_ hk
  have hx := List.getElem?_eq_getElem hk
  obtain ⟨y, hi, hr⟩ := h2.2 k _ u hx hu
  obtain ⟨hr2, hp⟩ := rep_conc (hl k _ hx).1 hi hr
  exact ⟨ad, u, _, hA, by rw [block_add]; exact hlt, hc, hr2, hp⟩

theorem vals_any {w : World} {l : List VV} {A : Option Addr} {vs : List Value} (h1 : Reads w w.heap.size 1 A l.length vs) (h2 : RepE w l l.length vs) : Vals w A l.length (fun _ => True) := by
  intro k hk
  obtain ⟨ad, u, hA, hlt, hu, hc⟩ := h1.at_ hk
  obtain ⟨y, _, hr⟩ := h2.2 k _ u (List.getElem?_eq_getElem hk) hu
  exact ⟨ad, u, y, hA, by rw [block_add]; exact hlt, hc, hr, trivial⟩

set_option maxHeartbeats 1000000 in
theorem collS_le (A B : Option Addr) (n m c d : Nat) (hn : 0 < n) (hm : 0 < m) (hmax : n ≤ 2147483647) (hmax2 : m ≤ 2147483647) (hnm : n ≤ m) (w : World) (hA : Vals w A n SV.plain) (hB : Vals w B m (fun _ => True)) :
    Calls Tryd.prog 65 #[.slice A n c, .slice B m d] w (SomeC w) := by
  have HA := Lib.hid hA
  have HB := Lib.hid hB
  clear hA hB
  have hn0 : ((n : Int) == 0) = false := by simp; omega
  have hn1 : ((n : Int) != 0) = true := by simp; omega
  have hm0 : ((m : Int) == 0) = false := by simp; omega
  have hm1 : ((m : Int) != 0) = true := by simp; omega
  have hdn : decide (m < n) = false := decide_eq_false (by omega)
  have hdc : decide ((m : Int) < (n : Int)) = false := decide_eq_false (by omega)
  go_enter Tryd.func65, Tryd.ntmps65
  go_wp2
  go_loopw [4, 44] (fun r i wr => ∃ k : Nat, k ≤ n ∧ r = .int .i64 1 ∧ i = .int .i64 k ∧ Below w.heap.size w wr) (fun _ i _ => n - (intOf i).toNat)
  case atStart => exact ⟨0, by omega, rfl, rfl, Below.refl _ _⟩
  case round =>
    obtain ⟨k, hk, rfl, rfl, hb⟩ := hrel
    have HBw := Lib.hid hb
    have hs := hb.size
    by_cases hlt : k < n
    · obtain ⟨ad, u1, y1, rfl, hbu, hcu, r1, q1⟩ := (HA.out.below hb) k (by omega)
      obtain ⟨bd, u2, y2, rfl, hbv, hcv, r2, q2⟩ := (HB.out.below hb) k (by omega)
      have HC := Lib.hid (fun W (hW : Below wr.heap.size wr W) => cs_any y1 y2 q1 u1 u2 W (r1.below hW) (r2.below hW))
      clear r1 r2 q1 q2 hb
      go_wp2_with (go_at_call 97; refine (HC.out _ (Below.refl _ _)).mono ?_; rintro e w1 ⟨cc, rfl, hb1⟩)
      all_goals first
        | (go_ret; exact ⟨_, rfl, up_below' HBw.out hb1⟩)
        | exact ⟨⟨k + 1, by omega, rfl, by push_cast; rfl, up_below' HBw.out hb1⟩, by simp [intOf]; omega⟩
    · have hke : k = n := by omega
      subst hke
      go_wp2
      all_goals
        go_ret
        exact ⟨_, rfl, hb⟩

set_option maxHeartbeats 1000000 in
theorem collS_gt (A B : Option Addr) (n m c d : Nat) (hn : 0 < n) (hm : 0 < m) (hmax : n ≤ 2147483647) (hmax2 : m ≤ 2147483647) (hnm : m < n) (w : World) (hA : Vals w A n SV.plain) (hB : Vals w B m (fun _ => True)) :
    Calls Tryd.prog 65 #[.slice A n c, .slice B m d] w (SomeC w) := by
  have HA := Lib.hid hA
  have HB := Lib.hid hB
  clear hA hB
  have hn0 : ((n : Int) == 0) = false := by simp; omega
  have hn1 : ((n : Int) != 0) = true := by simp; omega
  have hm0 : ((m : Int) == 0) = false := by simp; omega
  have hm1 : ((m : Int) != 0) = true := by simp; omega
  have hdn : decide (m < n) = true := decide_eq_true (by omega)
  have hdc : decide ((m : Int) < (n : Int)) = true := decide_eq_true (by omega)
  go_enter Tryd.func65, Tryd.ntmps65
  go_wp2
  go_loopw [4, 44] (fun r i wr => ∃ k : Nat, k ≤ m ∧ r = .int .i64 (-1) ∧ i = .int .i64 k ∧ Below w.heap.size w wr) (fun _ i _ => m - (intOf i).toNat)
  case atStart => exact ⟨0, by omega, rfl, rfl, Below.refl _ _⟩
  case round =>
    obtain ⟨k, hk, rfl, rfl, hb⟩ := hrel
    have HBw := Lib.hid hb
    have hs := hb.size
    by_cases hlt : k < m
    · obtain ⟨ad, u1, y1, rfl, hbu, hcu, r1, q1⟩ := (HB.out.below hb) k (by omega)
      obtain ⟨bd, u2, y2, rfl, hbv, hcv, r2, q2⟩ := (HA.out.below hb) k (by omega)
      have HC := Lib.hid (fun W (hW : Below wr.heap.size wr W) => sc_any y2 y1 q2 u2 u1 W (r2.below hW) (r1.below hW))
      clear r1 r2 q1 q2 hb
      go_wp2_with (go_at_call 97; refine (HC.out _ (Below.refl _ _)).mono ?_; rintro e w1 ⟨cc, rfl, hb1⟩)
      all_goals first
        | (go_ret; exact ⟨_, rfl, up_below' HBw.out hb1⟩)
        | exact ⟨⟨k + 1, by omega, rfl, by push_cast; rfl, up_below' HBw.out hb1⟩, by simp [intOf]; omega⟩
    · have hke : k = m := by omega
      subst hke
      go_wp2
      all_goals
        go_ret
        exact ⟨_, rfl, hb⟩

theorem collS_any (A B : Option Addr) (n m c d : Nat) (hn : 0 < n) (hm : 0 < m) (hmax : n ≤ 2147483647) (hmax2 : m ≤ 2147483647) (w : World) (hA : Vals w A n SV.plain) (hB : Vals w B m (fun _ => True)) :
    Calls Tryd.prog 65 #[.slice A n c, .slice B m d] w (SomeC w) := by
  rcases Nat.lt_or_ge m n with h | h
  · exact collS_gt A B n m c d hn hm hmax hmax2 h w hA hB
  · exact collS_le A B n m c d hn hm hmax hmax2 h w hA hB

set_option maxHeartbeats 400000 in
theorem descS_any (u v : Value) (w : World) (H : Hid (Calls Tryd.prog 65 #[u, v] w (SomeC w))) : Calls Tryd.prog 63 #[u, v] w (SomeC w) := by
  go_enter Tryd.func63, Tryd.ntmps63
  go_wp2_with (go_at_call 65; refine H.out.mono ?_; rintro e w1 ⟨cc, rfl, hb1⟩)
  go_ret
  exact ⟨_, rfl, hb1⟩

set_option maxHeartbeats 400000 in
theorem zzDescS_any (u v : Value) (w : World) (H : Hid (Calls Tryd.prog 63 #[u, v] w (SomeC w))) : Calls Tryd.prog 28 #[u, v] w (SomeC w) := by
  go_enter Tryd.func28, Tryd.ntmps28
  go_wp2_with (go_at_call 63; refine H.out.mono ?_; rintro e w1 ⟨cc, rfl, hb1⟩)
  go_ret
  exact ⟨_, rfl, hb1⟩

set_option maxHeartbeats 400000 in
theorem zzCollS_any (u v : Value) (w : World) (H : Hid (Calls Tryd.prog 65 #[u, v] w (SomeC w))) : Calls Tryd.prog 30 #[u, v] w (SomeC w) := by
  go_enter Tryd.func30, Tryd.ntmps30
  go_wp2_with (go_at_call 65; refine H.out.mono ?_; rintro e w1 ⟨cc, rfl, hb1⟩)
  go_ret
  exact ⟨_, rfl, hb1⟩

set_option maxHeartbeats 1000000 in
theorem rowsS_no (l m : List VV) (A B : Option Addr) (c d : Nat) (h0 : 0 < l.length) (h1 : 0 < m.length) (hm : l.length ≤ 2147483647) (hm2 : m.length ≤ 2147483647) (hl : ConcL l) (hr : ∀ (j : Nat) (x : VV), m[j]? = some x → Rng x.n x.u x.f) (w : World) (hA : LAt w A l) (hB : LAt w B m) :
    Calls Tryd.prog 16 #[.slice A l.length c, .slice B m.length d, .bool false] w (SomeC w) := by
  have HA := Lib.hid (fun w' (h : Below w.heap.size w w') => ins_v l A c w' (hA.below h) hl hm)
  have HB := Lib.hid (fun w' (h : Below w.heap.size w w') => insE_any m B d w' (hB.below h) hr hm2)
  have HC : Hid (∀ (w' : World) (u v : Value), Ins w' l u → (∃ B' d' vs, v = .slice B' m.length d' ∧ Reads w' w'.heap.size 1 B' m.length vs ∧ RepE w' m m.length vs) → Calls Tryd.prog 30 #[u, v] w' (SomeC w')) := Lib.hid (fun w' u v hu ⟨B', d', vs, hv, hr1, hr2⟩ => by
    subst hv
    have hu' := hu
    obtain ⟨A', c', _, rfl, _⟩ := hu'
    have h := collS_any A' B' l.length m.length c' d' h0 h1 hm hm2 w' (vals_ins hl hu) (vals_any hr1 hr2)
    exact zzCollS_any _ _ w' (Lib.hid h))
  clear hA hB hm hm2 hl hr h0 h1
  go_enter Tryd.func16, Tryd.ntmps16
  go_wp2_with (first
    | (go_at_call_of 29 (Value.slice A l.length c); refine (HA.out _ (Below.refl _ _)).mono ?_; rintro e w1 ⟨v1, rfl, hi1, hb1⟩; have HI1 := Lib.hid hi1; clear hi1)
    | (go_at_call 29; refine (HB.out _ hb1).mono ?_; rintro e w2 ⟨B2, d2, vs2, rfl, hr2, hr3, hb2⟩; have HI2 := Lib.hid (And.intro hr2 hr3); clear hr2 hr3)
    | (go_at_call 30; refine (HC.out _ _ _ (HI1.out.below hb2) ⟨B2, d2, vs2, rfl, HI2.out.1, HI2.out.2⟩).mono ?_; rintro e w3 ⟨cc, rfl, hb3⟩))
  go_ret
  exact ⟨_, rfl, up_below' (up_below' hb1 hb2) hb3⟩

set_option maxHeartbeats 1000000 in
theorem rowsS_desc (l m : List VV) (A B : Option Addr) (c d : Nat) (h0 : 0 < l.length) (h1 : 0 < m.length) (hm : l.length ≤ 2147483647) (hm2 : m.length ≤ 2147483647) (hl : ConcL l) (hr : ∀ (j : Nat) (x : VV), m[j]? = some x → Rng x.n x.u x.f) (w : World) (hA : LAt w A l) (hB : LAt w B m) :
    Calls Tryd.prog 16 #[.slice A l.length c, .slice B m.length d, .bool true] w (SomeC w) := by
  have HA := Lib.hid (fun w' (h : Below w.heap.size w w') => ins_v l A c w' (hA.below h) hl hm)
  have HB := Lib.hid (fun w' (h : Below w.heap.size w w') => insE_any m B d w' (hB.below h) hr hm2)
  have HC : Hid (∀ (w' : World) (u v : Value), Ins w' l u → (∃ B' d' vs, v = .slice B' m.length d' ∧ Reads w' w'.heap.size 1 B' m.length vs ∧ RepE w' m m.length vs) → Calls Tryd.prog 28 #[u, v] w' (SomeC w')) := Lib.hid (fun w' u v hu ⟨B', d', vs, hv, hr1, hr2⟩ => by
    subst hv
    have hu' := hu
    obtain ⟨A', c', _, rfl, _⟩ := hu'
    have h := collS_any A' B' l.length m.length c' d' h0 h1 hm hm2 w' (vals_ins hl hu) (vals_any hr1 hr2)
    exact zzDescS_any _ _ w' (Lib.hid (descS_any _ _ w' (Lib.hid h))))
  clear hA hB hm hm2 hl hr h0 h1
  go_enter Tryd.func16, Tryd.ntmps16
  go_wp2_with (first
    | (go_at_call_of 29 (Value.slice A l.length c); refine (HA.out _ (Below.refl _ _)).mono ?_; rintro e w1 ⟨v1, rfl, hi1, hb1⟩; have HI1 := Lib.hid hi1; clear hi1)
    | (go_at_call 29; refine (HB.out _ hb1).mono ?_; rintro e w2 ⟨B2, d2, vs2, rfl, hr2, hr3, hb2⟩; have HI2 := Lib.hid (And.intro hr2 hr3); clear hr2 hr3)
    | (go_at_call 28; refine (HC.out _ _ _ (HI1.out.below hb2) ⟨B2, d2, vs2, rfl, HI2.out.1, HI2.out.2⟩).mono ?_; rintro e w3 ⟨cc, rfl, hb3⟩))
  go_ret
  exact ⟨_, rfl, up_below' (up_below' hb1 hb2) hb3⟩

/-- impl.CollateRows of concrete values and any values: some number. -/
theorem rowsS_any (x : Bool) (l m : List VV) (A B : Option Addr) (c d : Nat) (h0 : 0 < l.length) (h1 : 0 < m.length) (hm : l.length ≤ 2147483647) (hm2 : m.length ≤ 2147483647) (hl : ConcL l) (hr : ∀ (j : Nat) (x : VV), m[j]? = some x → Rng x.n x.u x.f) (w : World) (hA : LAt w A l) (hB : LAt w B m) :
    Calls Tryd.prog 16 #[.slice A l.length c, .slice B m.length d, .bool x] w (SomeC w) := by
  cases x with
  | false => exact rowsS_no l m A B c d h0 h1 hm hm2 hl hr w hA hB
  | true => exact rowsS_desc l m A B c d h0 h1 hm hm2 hl hr w hA hB

end Go.Proofs.YtffgkocokkhahaaDoor
