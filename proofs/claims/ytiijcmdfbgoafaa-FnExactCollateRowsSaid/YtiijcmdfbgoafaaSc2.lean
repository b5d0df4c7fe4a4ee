/-
  The reference's order of two strings, byte by byte.
-/
import Derived.Test.YtiijcmdfbgoafaaSc1
import Derived.Deep.QuietTactic
import Derived.BigQuiet
namespace Go.Proofs.Ytiijcmdfbgoafaa
open Go.RowKit

theorem bytesOrd_at : ∀ (k : Nat) (l m : List UInt8) (x y : UInt8), (∀ j, j < k → l[j]? = m[j]?) → l[k]? = some x → m[k]? = some y → x ≠ y → bytesOrd l m = if x < y then -1 else 1
  | _, [], _, _, _, _, hx, _, _ => by simp at hx
  | _, _ :: _, [], _, _, _, _, hy, _ => by simp at hy
  | 0, a :: l, b :: m, x, y, _, hx, hy, hne => by
    obtain rfl : a = x := by simpa using hx
    obtain rfl : b = y := by simpa using hy
    rw [← cmpL_ord, cmpL_cons, if_neg hne]
  | k + 1, a :: l, b :: m, x, y, hp, hx, hy, hne => by
    have h0 : a = b := by simpa using hp 0 (by omega)
    rw [← cmpL_ord, cmpL_cons, if_pos h0, cmpL_ord]
    exact bytesOrd_at k l m x y (fun j hj => by simpa using hp (j + 1) (by omega)) (by simpa using hx) (by simpa using hy) hne

theorem bytesOrd_end : ∀ (l m : List UInt8), (∀ j, j < min l.length m.length → l[j]? = m[j]?) → bytesOrd l m = if l.length < m.length then -1 else if m.length < l.length then 1 else 0
  | [], [], _ => by decide
  | [], y :: m, _ => by simp [bytesOrd, three, Op.bytesLess]
  | x :: l, [], _ => by simp [bytesOrd, three, Op.bytesLess]
  | x :: l, y :: m, hp => by
    have h0 : x = y := by simpa using hp 0 (by simp)
    rw [← cmpL_ord, cmpL_cons, if_pos h0, cmpL_ord, bytesOrd_end l m (fun j hj => by simpa using hp (j + 1) (by simp; omega))]
    simp

theorem ba_at (s : ByteArray) (k : Nat) (h : k < s.size) : s.data.toList[k]? = some s[k] := by
  rw [List.getElem?_eq_getElem (by simpa using h)]
  rfl

theorem u8_ne {x y : UInt8} (h : ((x.toNat : Int) != y.toNat) = true) : x ≠ y := by
  rintro rfl
  simp at h
theorem u8_eq {x y : UInt8} (h : ((x.toNat : Int) != y.toNat) = false) : x = y := by
  have : x.toNat = y.toNat := by
    have h' : (x.toNat : Int) = y.toNat := by simpa using h
    omega
  exact UInt8.toNat_inj.1 this

def TxtPost (a b : ByteArray) (w : World) (e : Ending) (w' : World) : Prop := e = .returned (.int .i64 (bytesOrd a.data.toList b.data.toList)) ∧ Below w.heap.size w w'

set_option maxHeartbeats 1000000 in
theorem vTexts_any (a b : ByteArray) (w : World) (ha : a.size ≤ 65536) (hb : b.size ≤ 65536) : Calls Try.prog 56 #[.string a, .string b] w (TxtPost a b w) := by
  have HE := Lib.hid (bytesOrd_end a.data.toList b.data.toList)
  have HA := Lib.hid (fun k x y h1 h2 h3 h4 => bytesOrd_at k a.data.toList b.data.toList x y h1 h2 h3 h4)
  have e1 : a.data.toList.length = a.size := by simp
  have e2 : b.data.toList.length = b.size := by simp
  have HL := Lib.hid e1
  have HM := Lib.hid e2
  clear e1 e2
  go_enter Try.func56, Try.ntmps56
  go_wp2
  go_loopw [5] (fun i wr => ∃ k : Nat, k ≤ a.size ∧ k ≤ b.size ∧ i = .int .i64 k ∧ Below w.heap.size w wr ∧ ∀ j, j < k → a.data.toList[j]? = b.data.toList[j]?) (fun i _ => a.size - (intOf i).toNat)
  case atStart => exact ⟨0, by omega, by omega, rfl, Below.refl _ _, fun j h => by omega⟩
  case round =>
    obtain ⟨k, h1, h2, rfl, hbw, hp⟩ := hrel
    have HB := Lib.hid hbw
    have HP := Lib.hid hp
    clear hbw hp
    by_cases h3 : k < a.size
    · by_cases h4 : k < b.size
      · have i1 : (k : Int) < (a.size : Int) := by omega
        have i2 : (k : Int) < (b.size : Int) := by omega
        have i3 : (0 : Int) ≤ (k : Int) := by omega
        cases hne : ((a[k].toNat : Int) != (b[k].toNat : Int)) with
        | true =>
          have HN := Lib.hid (HA.out k a[k] b[k] HP.out (ba_at a k h3) (ba_at b k h4) (u8_ne hne))
          go_wp2
          go_quiet (fail)
          go_wp2
          go_quiet (fail)
          by_cases hlt : a[k].toNat < b[k].toNat
          · go_wp2
            go_ret
            exact ⟨by rw [HN.out, if_pos (UInt8.lt_iff_toNat_lt.2 hlt)]; rfl, below_drewN (below_drewN HB.out _) _⟩
          · go_wp2
            go_ret
            exact ⟨by rw [HN.out, if_neg (fun h => hlt (UInt8.lt_iff_toNat_lt.1 h))]; rfl, below_drewN (below_drewN HB.out _) _⟩
        | false =>
          have HN := Lib.hid (u8_eq hne)
          go_wp2
          go_quiet (fail)
          go_wp2
          refine ⟨⟨k + 1, by omega, by omega, by push_cast; rfl, below_drewN HB.out _, fun j hj => ?_⟩, by simp [intOf]; omega⟩
          rcases Nat.lt_or_ge j k with h | h
          · exact HP.out j h
          · obtain rfl : j = k := by omega
            rw [ba_at a j h3, ba_at b j h4, HN.out]
      · have hx := HE.out (fun j hj => HP.out j (by rw [HL.out, HM.out] at hj; omega))
        rw [HL.out, HM.out] at hx
        have HX := Lib.hid hx
        clear hx
        by_cases h5 : a.size < b.size
        · omega
        · by_cases h6 : b.size < a.size
          · go_wp2
            go_ret
            exact ⟨by rw [HX.out, if_neg h5, if_pos h6]; rfl, HB.out⟩
          · go_wp2
            go_ret
            exact ⟨by rw [HX.out, if_neg h5, if_neg h6]; rfl, HB.out⟩
    · have hx := HE.out (fun j hj => HP.out j (by rw [HL.out, HM.out] at hj; omega))
      rw [HL.out, HM.out] at hx
      have HX := Lib.hid hx
      clear hx
      by_cases h5 : a.size < b.size
      · go_wp2
        go_ret
        exact ⟨by rw [HX.out, if_pos h5]; rfl, HB.out⟩
      · go_wp2
        go_ret
        exact ⟨by rw [HX.out, if_neg h5, if_neg (by omega)]; rfl, HB.out⟩

end Go.Proofs.Ytiijcmdfbgoafaa
