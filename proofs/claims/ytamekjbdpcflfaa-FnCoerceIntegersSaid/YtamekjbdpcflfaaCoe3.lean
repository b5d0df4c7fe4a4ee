/-
  ql.coerce of two literals; of any two values. PRINTED BY wip/tpl/gen_coe3.py.
-/
import Derived.Test.YtamekjbdpcflfaaCoe2
namespace Go.Proofs.Ytamekjbdpcflfaa
open Go.RowKit

theorem sameT_some (x y : SV) (u v : Value) (w : World) (hu : Rep w x u) (hv : Rep w y v) : Calls Try.prog 59 #[u, v] w fun e w' => ∃ b, e = .returned (.bool b) ∧ w = w' :=
  (sameT_any x y u v w hu hv).mono fun _ _ h => ⟨_, h⟩

theorem lit_wf {x y z : SV} (hz : z.wf) (hy : y.wf) (hlx : x.isLit = true) (hly : y.isLit = true) (hi : ∀ n q m, x = .iInt n → y = .int q m → fitI q n = true → z = .int q n) : Together x y z y where
  wa := hz
  wb := hy
  ka := fun h => by rw [hlx] at h; exact absurd h (by decide)
  kb := fun _ => rfl
  ia := hi
  ib := by rintro n q m rfl rfl; exact absurd hlx (by simp [SV.isLit])

set_option maxRecDepth 100000 in
set_option maxHeartbeats 1000000 in
theorem coerce_idealFloat_idealInt (x y : SV) (p q : Value) (w : World)
    (k1 : Hid (Calls Try.prog 56 #[Value.iface 73 p, Value.iface 74 q] w (Co1Post x y w)))
    (k2 : Hid (∀ w', Below w.heap.size w w' → Calls Try.prog 56 #[Value.iface 74 q, Value.iface 73 p] w' (Co1Post y x w')))
    (k3 : Hid (Calls Try.prog 59 #[Value.iface 73 p, Value.iface 74 q] w fun e w' => e = .returned (.bool false) ∧ w = w'))
    (k4 : Hid (∀ z r w', Rep w' z r → Below w.heap.size w w' → Calls Try.prog 59 #[r, Value.iface 74 q] w' fun e w'' => ∃ b, e = .returned (.bool b) ∧ w' = w''))
    (k5 : Hid (∀ z r w', z.wf → (∀ n q m, x = .iInt n → y = .int q m → fitI q n = true → z = .int q n) → Rep w' z r → Below w.heap.size w w' → CoPost x y w (.returned (.tuple #[r, Value.iface 74 q])) w'))
    (k6 : Hid (∀ z r w' w3, Below w.heap.size w w' → Rep w3 z r → z.wf → (y.isLit = false → z = y) → (∀ n q m, y = .iInt n → x = .int q m → fitI q n = true → z = .int q n) → Below w'.heap.size w' w3 → CoPost x y w (.returned (.tuple #[Value.iface 73 p, r])) w3)) :
    Calls Try.prog 55 #[Value.iface 73 p, Value.iface 74 q] w (CoPost x y w) := by
  go_enter Try.func55, Try.ntmps55
  go_wp2_with (first | (go_at_call_of 59 (Value.iface 73 p); refine k3.out.mono ?_; rintro e w' ⟨rfl, rfl⟩) | (go_at_call_of 56 (#[Value.iface 73 p, Value.iface 74 q]); refine k1.out.mono ?_; rintro e w1 ⟨z, r, rfl, hz, hr, hk, hi, hb⟩; have hz' := Lib.hid hz; have hr' := Lib.hid hr; have hi' := Lib.hid hi; have hb' := Lib.hid hb; clear hz hr hk hi hb) | (go_at_call_of 59 r; refine (k4.out z r _ hr'.out hb'.out).mono ?_; rintro e w2 ⟨b, rfl, rfl⟩) | (go_at_call_of 56 (#[Value.iface 74 q, Value.iface 73 p]); refine (k2.out _ hb'.out).mono ?_; rintro e w3 ⟨z3, r3, rfl, hz3, hr3, hk3, hi3, hb3⟩; have hp := Lib.hid (k6.out z3 r3 _ _ hb'.out hr3 hz3 hk3 hi3 hb3); clear hz3 hr3 hk3 hi3 hb3))
  · go_ret2
    exact k5.out z r _ hz'.out hi'.out hr'.out hb'.out
  · go_ret2
    exact hp.out

set_option maxRecDepth 100000 in
set_option maxHeartbeats 1000000 in
theorem coerce_idealFloat_idealRune (x y : SV) (p q : Value) (w : World)
    (k1 : Hid (Calls Try.prog 56 #[Value.iface 73 p, Value.iface 75 q] w (Co1Post x y w)))
    (k2 : Hid (∀ w', Below w.heap.size w w' → Calls Try.prog 56 #[Value.iface 75 q, Value.iface 73 p] w' (Co1Post y x w')))
    (k3 : Hid (Calls Try.prog 59 #[Value.iface 73 p, Value.iface 75 q] w fun e w' => e = .returned (.bool false) ∧ w = w'))
    (k4 : Hid (∀ z r w', Rep w' z r → Below w.heap.size w w' → Calls Try.prog 59 #[r, Value.iface 75 q] w' fun e w'' => ∃ b, e = .returned (.bool b) ∧ w' = w''))
    (k5 : Hid (∀ z r w', z.wf → (∀ n q m, x = .iInt n → y = .int q m → fitI q n = true → z = .int q n) → Rep w' z r → Below w.heap.size w w' → CoPost x y w (.returned (.tuple #[r, Value.iface 75 q])) w'))
    (k6 : Hid (∀ z r w' w3, Below w.heap.size w w' → Rep w3 z r → z.wf → (y.isLit = false → z = y) → (∀ n q m, y = .iInt n → x = .int q m → fitI q n = true → z = .int q n) → Below w'.heap.size w' w3 → CoPost x y w (.returned (.tuple #[Value.iface 73 p, r])) w3)) :
    Calls Try.prog 55 #[Value.iface 73 p, Value.iface 75 q] w (CoPost x y w) := by
  go_enter Try.func55, Try.ntmps55
  go_wp2_with (first | (go_at_call_of 59 (Value.iface 73 p); refine k3.out.mono ?_; rintro e w' ⟨rfl, rfl⟩) | (go_at_call_of 56 (#[Value.iface 73 p, Value.iface 75 q]); refine k1.out.mono ?_; rintro e w1 ⟨z, r, rfl, hz, hr, hk, hi, hb⟩; have hz' := Lib.hid hz; have hr' := Lib.hid hr; have hi' := Lib.hid hi; have hb' := Lib.hid hb; clear hz hr hk hi hb) | (go_at_call_of 59 r; refine (k4.out z r _ hr'.out hb'.out).mono ?_; rintro e w2 ⟨b, rfl, rfl⟩) | (go_at_call_of 56 (#[Value.iface 75 q, Value.iface 73 p]); refine (k2.out _ hb'.out).mono ?_; rintro e w3 ⟨z3, r3, rfl, hz3, hr3, hk3, hi3, hb3⟩; have hp := Lib.hid (k6.out z3 r3 _ _ hb'.out hr3 hz3 hk3 hi3 hb3); clear hz3 hr3 hk3 hi3 hb3))
  · go_ret2
    exact k5.out z r _ hz'.out hi'.out hr'.out hb'.out
  · go_ret2
    exact hp.out

set_option maxRecDepth 100000 in
set_option maxHeartbeats 1000000 in
theorem coerce_idealFloat_idealUint (x y : SV) (p q : Value) (w : World)
    (k1 : Hid (Calls Try.prog 56 #[Value.iface 73 p, Value.iface 76 q] w (Co1Post x y w)))
    (k2 : Hid (∀ w', Below w.heap.size w w' → Calls Try.prog 56 #[Value.iface 76 q, Value.iface 73 p] w' (Co1Post y x w')))
    (k3 : Hid (Calls Try.prog 59 #[Value.iface 73 p, Value.iface 76 q] w fun e w' => e = .returned (.bool false) ∧ w = w'))
    (k4 : Hid (∀ z r w', Rep w' z r → Below w.heap.size w w' → Calls Try.prog 59 #[r, Value.iface 76 q] w' fun e w'' => ∃ b, e = .returned (.bool b) ∧ w' = w''))
    (k5 : Hid (∀ z r w', z.wf → (∀ n q m, x = .iInt n → y = .int q m → fitI q n = true → z = .int q n) → Rep w' z r → Below w.heap.size w w' → CoPost x y w (.returned (.tuple #[r, Value.iface 76 q])) w'))
    (k6 : Hid (∀ z r w' w3, Below w.heap.size w w' → Rep w3 z r → z.wf → (y.isLit = false → z = y) → (∀ n q m, y = .iInt n → x = .int q m → fitI q n = true → z = .int q n) → Below w'.heap.size w' w3 → CoPost x y w (.returned (.tuple #[Value.iface 73 p, r])) w3)) :
    Calls Try.prog 55 #[Value.iface 73 p, Value.iface 76 q] w (CoPost x y w) := by
  go_enter Try.func55, Try.ntmps55
  go_wp2_with (first | (go_at_call_of 59 (Value.iface 73 p); refine k3.out.mono ?_; rintro e w' ⟨rfl, rfl⟩) | (go_at_call_of 56 (#[Value.iface 73 p, Value.iface 76 q]); refine k1.out.mono ?_; rintro e w1 ⟨z, r, rfl, hz, hr, hk, hi, hb⟩; have hz' := Lib.hid hz; have hr' := Lib.hid hr; have hi' := Lib.hid hi; have hb' := Lib.hid hb; clear hz hr hk hi hb) | (go_at_call_of 59 r; refine (k4.out z r _ hr'.out hb'.out).mono ?_; rintro e w2 ⟨b, rfl, rfl⟩) | (go_at_call_of 56 (#[Value.iface 76 q, Value.iface 73 p]); refine (k2.out _ hb'.out).mono ?_; rintro e w3 ⟨z3, r3, rfl, hz3, hr3, hk3, hi3, hb3⟩; have hp := Lib.hid (k6.out z3 r3 _ _ hb'.out hr3 hz3 hk3 hi3 hb3); clear hz3 hr3 hk3 hi3 hb3))
  · go_ret2
    exact k5.out z r _ hz'.out hi'.out hr'.out hb'.out
  · go_ret2
    exact hp.out

set_option maxRecDepth 100000 in
set_option maxHeartbeats 1000000 in
theorem coerce_idealInt_idealFloat (x y : SV) (p q : Value) (w : World)
    (k1 : Hid (Calls Try.prog 56 #[Value.iface 74 p, Value.iface 73 q] w (Co1Post x y w)))
    (k2 : Hid (∀ w', Below w.heap.size w w' → Calls Try.prog 56 #[Value.iface 73 q, Value.iface 74 p] w' (Co1Post y x w')))
    (k3 : Hid (Calls Try.prog 59 #[Value.iface 74 p, Value.iface 73 q] w fun e w' => e = .returned (.bool false) ∧ w = w'))
    (k4 : Hid (∀ z r w', Rep w' z r → Below w.heap.size w w' → Calls Try.prog 59 #[r, Value.iface 73 q] w' fun e w'' => ∃ b, e = .returned (.bool b) ∧ w' = w''))
    (k5 : Hid (∀ z r w', z.wf → (∀ n q m, x = .iInt n → y = .int q m → fitI q n = true → z = .int q n) → Rep w' z r → Below w.heap.size w w' → CoPost x y w (.returned (.tuple #[r, Value.iface 73 q])) w'))
    (k6 : Hid (∀ z r w' w3, Below w.heap.size w w' → Rep w3 z r → z.wf → (y.isLit = false → z = y) → (∀ n q m, y = .iInt n → x = .int q m → fitI q n = true → z = .int q n) → Below w'.heap.size w' w3 → CoPost x y w (.returned (.tuple #[Value.iface 74 p, r])) w3)) :
    Calls Try.prog 55 #[Value.iface 74 p, Value.iface 73 q] w (CoPost x y w) := by
  go_enter Try.func55, Try.ntmps55
  go_wp2_with (first | (go_at_call_of 59 (Value.iface 74 p); refine k3.out.mono ?_; rintro e w' ⟨rfl, rfl⟩) | (go_at_call_of 56 (#[Value.iface 74 p, Value.iface 73 q]); refine k1.out.mono ?_; rintro e w1 ⟨z, r, rfl, hz, hr, hk, hi, hb⟩; have hz' := Lib.hid hz; have hr' := Lib.hid hr; have hi' := Lib.hid hi; have hb' := Lib.hid hb; clear hz hr hk hi hb) | (go_at_call_of 59 r; refine (k4.out z r _ hr'.out hb'.out).mono ?_; rintro e w2 ⟨b, rfl, rfl⟩) | (go_at_call_of 56 (#[Value.iface 73 q, Value.iface 74 p]); refine (k2.out _ hb'.out).mono ?_; rintro e w3 ⟨z3, r3, rfl, hz3, hr3, hk3, hi3, hb3⟩; have hp := Lib.hid (k6.out z3 r3 _ _ hb'.out hr3 hz3 hk3 hi3 hb3); clear hz3 hr3 hk3 hi3 hb3))
  · go_ret2
    exact k5.out z r _ hz'.out hi'.out hr'.out hb'.out
  · go_ret2
    exact hp.out

set_option maxRecDepth 100000 in
set_option maxHeartbeats 1000000 in
theorem coerce_idealInt_idealRune (x y : SV) (p q : Value) (w : World)
    (k1 : Hid (Calls Try.prog 56 #[Value.iface 74 p, Value.iface 75 q] w (Co1Post x y w)))
    (k2 : Hid (∀ w', Below w.heap.size w w' → Calls Try.prog 56 #[Value.iface 75 q, Value.iface 74 p] w' (Co1Post y x w')))
    (k3 : Hid (Calls Try.prog 59 #[Value.iface 74 p, Value.iface 75 q] w fun e w' => e = .returned (.bool false) ∧ w = w'))
    (k4 : Hid (∀ z r w', Rep w' z r → Below w.heap.size w w' → Calls Try.prog 59 #[r, Value.iface 75 q] w' fun e w'' => ∃ b, e = .returned (.bool b) ∧ w' = w''))
    (k5 : Hid (∀ z r w', z.wf → (∀ n q m, x = .iInt n → y = .int q m → fitI q n = true → z = .int q n) → Rep w' z r → Below w.heap.size w w' → CoPost x y w (.returned (.tuple #[r, Value.iface 75 q])) w'))
    (k6 : Hid (∀ z r w' w3, Below w.heap.size w w' → Rep w3 z r → z.wf → (y.isLit = false → z = y) → (∀ n q m, y = .iInt n → x = .int q m → fitI q n = true → z = .int q n) → Below w'.heap.size w' w3 → CoPost x y w (.returned (.tuple #[Value.iface 74 p, r])) w3)) :
    Calls Try.prog 55 #[Value.iface 74 p, Value.iface 75 q] w (CoPost x y w) := by
  go_enter Try.func55, Try.ntmps55
  go_wp2_with (first | (go_at_call_of 59 (Value.iface 74 p); refine k3.out.mono ?_; rintro e w' ⟨rfl, rfl⟩) | (go_at_call_of 56 (#[Value.iface 74 p, Value.iface 75 q]); refine k1.out.mono ?_; rintro e w1 ⟨z, r, rfl, hz, hr, hk, hi, hb⟩; have hz' := Lib.hid hz; have hr' := Lib.hid hr; have hi' := Lib.hid hi; have hb' := Lib.hid hb; clear hz hr hk hi hb) | (go_at_call_of 59 r; refine (k4.out z r _ hr'.out hb'.out).mono ?_; rintro e w2 ⟨b, rfl, rfl⟩) | (go_at_call_of 56 (#[Value.iface 75 q, Value.iface 74 p]); refine (k2.out _ hb'.out).mono ?_; rintro e w3 ⟨z3, r3, rfl, hz3, hr3, hk3, hi3, hb3⟩; have hp := Lib.hid (k6.out z3 r3 _ _ hb'.out hr3 hz3 hk3 hi3 hb3); clear hz3 hr3 hk3 hi3 hb3))
  · go_ret2
    exact k5.out z r _ hz'.out hi'.out hr'.out hb'.out
  · go_ret2
    exact hp.out

set_option maxRecDepth 100000 in
set_option maxHeartbeats 1000000 in
theorem coerce_idealInt_idealUint (x y : SV) (p q : Value) (w : World)
    (k1 : Hid (Calls Try.prog 56 #[Value.iface 74 p, Value.iface 76 q] w (Co1Post x y w)))
    (k2 : Hid (∀ w', Below w.heap.size w w' → Calls Try.prog 56 #[Value.iface 76 q, Value.iface 74 p] w' (Co1Post y x w')))
    (k3 : Hid (Calls Try.prog 59 #[Value.iface 74 p, Value.iface 76 q] w fun e w' => e = .returned (.bool false) ∧ w = w'))
    (k4 : Hid (∀ z r w', Rep w' z r → Below w.heap.size w w' → Calls Try.prog 59 #[r, Value.iface 76 q] w' fun e w'' => ∃ b, e = .returned (.bool b) ∧ w' = w''))
    (k5 : Hid (∀ z r w', z.wf → (∀ n q m, x = .iInt n → y = .int q m → fitI q n = true → z = .int q n) → Rep w' z r → Below w.heap.size w w' → CoPost x y w (.returned (.tuple #[r, Value.iface 76 q])) w'))
    (k6 : Hid (∀ z r w' w3, Below w.heap.size w w' → Rep w3 z r → z.wf → (y.isLit = false → z = y) → (∀ n q m, y = .iInt n → x = .int q m → fitI q n = true → z = .int q n) → Below w'.heap.size w' w3 → CoPost x y w (.returned (.tuple #[Value.iface 74 p, r])) w3)) :
    Calls Try.prog 55 #[Value.iface 74 p, Value.iface 76 q] w (CoPost x y w) := by
  go_enter Try.func55, Try.ntmps55
  go_wp2_with (first | (go_at_call_of 59 (Value.iface 74 p); refine k3.out.mono ?_; rintro e w' ⟨rfl, rfl⟩) | (go_at_call_of 56 (#[Value.iface 74 p, Value.iface 76 q]); refine k1.out.mono ?_; rintro e w1 ⟨z, r, rfl, hz, hr, hk, hi, hb⟩; have hz' := Lib.hid hz; have hr' := Lib.hid hr; have hi' := Lib.hid hi; have hb' := Lib.hid hb; clear hz hr hk hi hb) | (go_at_call_of 59 r; refine (k4.out z r _ hr'.out hb'.out).mono ?_; rintro e w2 ⟨b, rfl, rfl⟩) | (go_at_call_of 56 (#[Value.iface 76 q, Value.iface 74 p]); refine (k2.out _ hb'.out).mono ?_; rintro e w3 ⟨z3, r3, rfl, hz3, hr3, hk3, hi3, hb3⟩; have hp := Lib.hid (k6.out z3 r3 _ _ hb'.out hr3 hz3 hk3 hi3 hb3); clear hz3 hr3 hk3 hi3 hb3))
  · go_ret2
    exact k5.out z r _ hz'.out hi'.out hr'.out hb'.out
  · go_ret2
    exact hp.out

set_option maxRecDepth 100000 in
set_option maxHeartbeats 1000000 in
theorem coerce_idealRune_idealFloat (x y : SV) (p q : Value) (w : World)
    (k1 : Hid (Calls Try.prog 56 #[Value.iface 75 p, Value.iface 73 q] w (Co1Post x y w)))
    (k2 : Hid (∀ w', Below w.heap.size w w' → Calls Try.prog 56 #[Value.iface 73 q, Value.iface 75 p] w' (Co1Post y x w')))
    (k3 : Hid (Calls Try.prog 59 #[Value.iface 75 p, Value.iface 73 q] w fun e w' => e = .returned (.bool false) ∧ w = w'))
    (k4 : Hid (∀ z r w', Rep w' z r → Below w.heap.size w w' → Calls Try.prog 59 #[r, Value.iface 73 q] w' fun e w'' => ∃ b, e = .returned (.bool b) ∧ w' = w''))
    (k5 : Hid (∀ z r w', z.wf → (∀ n q m, x = .iInt n → y = .int q m → fitI q n = true → z = .int q n) → Rep w' z r → Below w.heap.size w w' → CoPost x y w (.returned (.tuple #[r, Value.iface 73 q])) w'))
    (k6 : Hid (∀ z r w' w3, Below w.heap.size w w' → Rep w3 z r → z.wf → (y.isLit = false → z = y) → (∀ n q m, y = .iInt n → x = .int q m → fitI q n = true → z = .int q n) → Below w'.heap.size w' w3 → CoPost x y w (.returned (.tuple #[Value.iface 75 p, r])) w3)) :
    Calls Try.prog 55 #[Value.iface 75 p, Value.iface 73 q] w (CoPost x y w) := by
  go_enter Try.func55, Try.ntmps55
  go_wp2_with (first | (go_at_call_of 59 (Value.iface 75 p); refine k3.out.mono ?_; rintro e w' ⟨rfl, rfl⟩) | (go_at_call_of 56 (#[Value.iface 75 p, Value.iface 73 q]); refine k1.out.mono ?_; rintro e w1 ⟨z, r, rfl, hz, hr, hk, hi, hb⟩; have hz' := Lib.hid hz; have hr' := Lib.hid hr; have hi' := Lib.hid hi; have hb' := Lib.hid hb; clear hz hr hk hi hb) | (go_at_call_of 59 r; refine (k4.out z r _ hr'.out hb'.out).mono ?_; rintro e w2 ⟨b, rfl, rfl⟩) | (go_at_call_of 56 (#[Value.iface 73 q, Value.iface 75 p]); refine (k2.out _ hb'.out).mono ?_; rintro e w3 ⟨z3, r3, rfl, hz3, hr3, hk3, hi3, hb3⟩; have hp := Lib.hid (k6.out z3 r3 _ _ hb'.out hr3 hz3 hk3 hi3 hb3); clear hz3 hr3 hk3 hi3 hb3))
  · go_ret2
    exact k5.out z r _ hz'.out hi'.out hr'.out hb'.out
  · go_ret2
    exact hp.out

set_option maxRecDepth 100000 in
set_option maxHeartbeats 1000000 in
theorem coerce_idealRune_idealInt (x y : SV) (p q : Value) (w : World)
    (k1 : Hid (Calls Try.prog 56 #[Value.iface 75 p, Value.iface 74 q] w (Co1Post x y w)))
    (k2 : Hid (∀ w', Below w.heap.size w w' → Calls Try.prog 56 #[Value.iface 74 q, Value.iface 75 p] w' (Co1Post y x w')))
    (k3 : Hid (Calls Try.prog 59 #[Value.iface 75 p, Value.iface 74 q] w fun e w' => e = .returned (.bool false) ∧ w = w'))
    (k4 : Hid (∀ z r w', Rep w' z r → Below w.heap.size w w' → Calls Try.prog 59 #[r, Value.iface 74 q] w' fun e w'' => ∃ b, e = .returned (.bool b) ∧ w' = w''))
    (k5 : Hid (∀ z r w', z.wf → (∀ n q m, x = .iInt n → y = .int q m → fitI q n = true → z = .int q n) → Rep w' z r → Below w.heap.size w w' → CoPost x y w (.returned (.tuple #[r, Value.iface 74 q])) w'))
    (k6 : Hid (∀ z r w' w3, Below w.heap.size w w' → Rep w3 z r → z.wf → (y.isLit = false → z = y) → (∀ n q m, y = .iInt n → x = .int q m → fitI q n = true → z = .int q n) → Below w'.heap.size w' w3 → CoPost x y w (.returned (.tuple #[Value.iface 75 p, r])) w3)) :
    Calls Try.prog 55 #[Value.iface 75 p, Value.iface 74 q] w (CoPost x y w) := by
  go_enter Try.func55, Try.ntmps55
  go_wp2_with (first | (go_at_call_of 59 (Value.iface 75 p); refine k3.out.mono ?_; rintro e w' ⟨rfl, rfl⟩) | (go_at_call_of 56 (#[Value.iface 75 p, Value.iface 74 q]); refine k1.out.mono ?_; rintro e w1 ⟨z, r, rfl, hz, hr, hk, hi, hb⟩; have hz' := Lib.hid hz; have hr' := Lib.hid hr; have hi' := Lib.hid hi; have hb' := Lib.hid hb; clear hz hr hk hi hb) | (go_at_call_of 59 r; refine (k4.out z r _ hr'.out hb'.out).mono ?_; rintro e w2 ⟨b, rfl, rfl⟩) | (go_at_call_of 56 (#[Value.iface 74 q, Value.iface 75 p]); refine (k2.out _ hb'.out).mono ?_; rintro e w3 ⟨z3, r3, rfl, hz3, hr3, hk3, hi3, hb3⟩; have hp := Lib.hid (k6.out z3 r3 _ _ hb'.out hr3 hz3 hk3 hi3 hb3); clear hz3 hr3 hk3 hi3 hb3))
  · go_ret2
    exact k5.out z r _ hz'.out hi'.out hr'.out hb'.out
  · go_ret2
    exact hp.out

set_option maxRecDepth 100000 in
set_option maxHeartbeats 1000000 in
theorem coerce_idealRune_idealUint (x y : SV) (p q : Value) (w : World)
    (k1 : Hid (Calls Try.prog 56 #[Value.iface 75 p, Value.iface 76 q] w (Co1Post x y w)))
    (k2 : Hid (∀ w', Below w.heap.size w w' → Calls Try.prog 56 #[Value.iface 76 q, Value.iface 75 p] w' (Co1Post y x w')))
    (k3 : Hid (Calls Try.prog 59 #[Value.iface 75 p, Value.iface 76 q] w fun e w' => e = .returned (.bool false) ∧ w = w'))
    (k4 : Hid (∀ z r w', Rep w' z r → Below w.heap.size w w' → Calls Try.prog 59 #[r, Value.iface 76 q] w' fun e w'' => ∃ b, e = .returned (.bool b) ∧ w' = w''))
    (k5 : Hid (∀ z r w', z.wf → (∀ n q m, x = .iInt n → y = .int q m → fitI q n = true → z = .int q n) → Rep w' z r → Below w.heap.size w w' → CoPost x y w (.returned (.tuple #[r, Value.iface 76 q])) w'))
    (k6 : Hid (∀ z r w' w3, Below w.heap.size w w' → Rep w3 z r → z.wf → (y.isLit = false → z = y) → (∀ n q m, y = .iInt n → x = .int q m → fitI q n = true → z = .int q n) → Below w'.heap.size w' w3 → CoPost x y w (.returned (.tuple #[Value.iface 75 p, r])) w3)) :
    Calls Try.prog 55 #[Value.iface 75 p, Value.iface 76 q] w (CoPost x y w) := by
  go_enter Try.func55, Try.ntmps55
  go_wp2_with (first | (go_at_call_of 59 (Value.iface 75 p); refine k3.out.mono ?_; rintro e w' ⟨rfl, rfl⟩) | (go_at_call_of 56 (#[Value.iface 75 p, Value.iface 76 q]); refine k1.out.mono ?_; rintro e w1 ⟨z, r, rfl, hz, hr, hk, hi, hb⟩; have hz' := Lib.hid hz; have hr' := Lib.hid hr; have hi' := Lib.hid hi; have hb' := Lib.hid hb; clear hz hr hk hi hb) | (go_at_call_of 59 r; refine (k4.out z r _ hr'.out hb'.out).mono ?_; rintro e w2 ⟨b, rfl, rfl⟩) | (go_at_call_of 56 (#[Value.iface 76 q, Value.iface 75 p]); refine (k2.out _ hb'.out).mono ?_; rintro e w3 ⟨z3, r3, rfl, hz3, hr3, hk3, hi3, hb3⟩; have hp := Lib.hid (k6.out z3 r3 _ _ hb'.out hr3 hz3 hk3 hi3 hb3); clear hz3 hr3 hk3 hi3 hb3))
  · go_ret2
    exact k5.out z r _ hz'.out hi'.out hr'.out hb'.out
  · go_ret2
    exact hp.out

set_option maxRecDepth 100000 in
set_option maxHeartbeats 1000000 in
theorem coerce_idealUint_idealFloat (x y : SV) (p q : Value) (w : World)
    (k1 : Hid (Calls Try.prog 56 #[Value.iface 76 p, Value.iface 73 q] w (Co1Post x y w)))
    (k2 : Hid (∀ w', Below w.heap.size w w' → Calls Try.prog 56 #[Value.iface 73 q, Value.iface 76 p] w' (Co1Post y x w')))
    (k3 : Hid (Calls Try.prog 59 #[Value.iface 76 p, Value.iface 73 q] w fun e w' => e = .returned (.bool false) ∧ w = w'))
    (k4 : Hid (∀ z r w', Rep w' z r → Below w.heap.size w w' → Calls Try.prog 59 #[r, Value.iface 73 q] w' fun e w'' => ∃ b, e = .returned (.bool b) ∧ w' = w''))
    (k5 : Hid (∀ z r w', z.wf → (∀ n q m, x = .iInt n → y = .int q m → fitI q n = true → z = .int q n) → Rep w' z r → Below w.heap.size w w' → CoPost x y w (.returned (.tuple #[r, Value.iface 73 q])) w'))
    (k6 : Hid (∀ z r w' w3, Below w.heap.size w w' → Rep w3 z r → z.wf → (y.isLit = false → z = y) → (∀ n q m, y = .iInt n → x = .int q m → fitI q n = true → z = .int q n) → Below w'.heap.size w' w3 → CoPost x y w (.returned (.tuple #[Value.iface 76 p, r])) w3)) :
    Calls Try.prog 55 #[Value.iface 76 p, Value.iface 73 q] w (CoPost x y w) := by
  go_enter Try.func55, Try.ntmps55
  go_wp2_with (first | (go_at_call_of 59 (Value.iface 76 p); refine k3.out.mono ?_; rintro e w' ⟨rfl, rfl⟩) | (go_at_call_of 56 (#[Value.iface 76 p, Value.iface 73 q]); refine k1.out.mono ?_; rintro e w1 ⟨z, r, rfl, hz, hr, hk, hi, hb⟩; have hz' := Lib.hid hz; have hr' := Lib.hid hr; have hi' := Lib.hid hi; have hb' := Lib.hid hb; clear hz hr hk hi hb) | (go_at_call_of 59 r; refine (k4.out z r _ hr'.out hb'.out).mono ?_; rintro e w2 ⟨b, rfl, rfl⟩) | (go_at_call_of 56 (#[Value.iface 73 q, Value.iface 76 p]); refine (k2.out _ hb'.out).mono ?_; rintro e w3 ⟨z3, r3, rfl, hz3, hr3, hk3, hi3, hb3⟩; have hp := Lib.hid (k6.out z3 r3 _ _ hb'.out hr3 hz3 hk3 hi3 hb3); clear hz3 hr3 hk3 hi3 hb3))
  · go_ret2
    exact k5.out z r _ hz'.out hi'.out hr'.out hb'.out
  · go_ret2
    exact hp.out

set_option maxRecDepth 100000 in
set_option maxHeartbeats 1000000 in
theorem coerce_idealUint_idealInt (x y : SV) (p q : Value) (w : World)
    (k1 : Hid (Calls Try.prog 56 #[Value.iface 76 p, Value.iface 74 q] w (Co1Post x y w)))
    (k2 : Hid (∀ w', Below w.heap.size w w' → Calls Try.prog 56 #[Value.iface 74 q, Value.iface 76 p] w' (Co1Post y x w')))
    (k3 : Hid (Calls Try.prog 59 #[Value.iface 76 p, Value.iface 74 q] w fun e w' => e = .returned (.bool false) ∧ w = w'))
    (k4 : Hid (∀ z r w', Rep w' z r → Below w.heap.size w w' → Calls Try.prog 59 #[r, Value.iface 74 q] w' fun e w'' => ∃ b, e = .returned (.bool b) ∧ w' = w''))
    (k5 : Hid (∀ z r w', z.wf → (∀ n q m, x = .iInt n → y = .int q m → fitI q n = true → z = .int q n) → Rep w' z r → Below w.heap.size w w' → CoPost x y w (.returned (.tuple #[r, Value.iface 74 q])) w'))
    (k6 : Hid (∀ z r w' w3, Below w.heap.size w w' → Rep w3 z r → z.wf → (y.isLit = false → z = y) → (∀ n q m, y = .iInt n → x = .int q m → fitI q n = true → z = .int q n) → Below w'.heap.size w' w3 → CoPost x y w (.returned (.tuple #[Value.iface 76 p, r])) w3)) :
    Calls Try.prog 55 #[Value.iface 76 p, Value.iface 74 q] w (CoPost x y w) := by
  go_enter Try.func55, Try.ntmps55
  go_wp2_with (first | (go_at_call_of 59 (Value.iface 76 p); refine k3.out.mono ?_; rintro e w' ⟨rfl, rfl⟩) | (go_at_call_of 56 (#[Value.iface 76 p, Value.iface 74 q]); refine k1.out.mono ?_; rintro e w1 ⟨z, r, rfl, hz, hr, hk, hi, hb⟩; have hz' := Lib.hid hz; have hr' := Lib.hid hr; have hi' := Lib.hid hi; have hb' := Lib.hid hb; clear hz hr hk hi hb) | (go_at_call_of 59 r; refine (k4.out z r _ hr'.out hb'.out).mono ?_; rintro e w2 ⟨b, rfl, rfl⟩) | (go_at_call_of 56 (#[Value.iface 74 q, Value.iface 76 p]); refine (k2.out _ hb'.out).mono ?_; rintro e w3 ⟨z3, r3, rfl, hz3, hr3, hk3, hi3, hb3⟩; have hp := Lib.hid (k6.out z3 r3 _ _ hb'.out hr3 hz3 hk3 hi3 hb3); clear hz3 hr3 hk3 hi3 hb3))
  · go_ret2
    exact k5.out z r _ hz'.out hi'.out hr'.out hb'.out
  · go_ret2
    exact hp.out

set_option maxRecDepth 100000 in
set_option maxHeartbeats 1000000 in
theorem coerce_idealUint_idealRune (x y : SV) (p q : Value) (w : World)
    (k1 : Hid (Calls Try.prog 56 #[Value.iface 76 p, Value.iface 75 q] w (Co1Post x y w)))
    (k2 : Hid (∀ w', Below w.heap.size w w' → Calls Try.prog 56 #[Value.iface 75 q, Value.iface 76 p] w' (Co1Post y x w')))
    (k3 : Hid (Calls Try.prog 59 #[Value.iface 76 p, Value.iface 75 q] w fun e w' => e = .returned (.bool false) ∧ w = w'))
    (k4 : Hid (∀ z r w', Rep w' z r → Below w.heap.size w w' → Calls Try.prog 59 #[r, Value.iface 75 q] w' fun e w'' => ∃ b, e = .returned (.bool b) ∧ w' = w''))
    (k5 : Hid (∀ z r w', z.wf → (∀ n q m, x = .iInt n → y = .int q m → fitI q n = true → z = .int q n) → Rep w' z r → Below w.heap.size w w' → CoPost x y w (.returned (.tuple #[r, Value.iface 75 q])) w'))
    (k6 : Hid (∀ z r w' w3, Below w.heap.size w w' → Rep w3 z r → z.wf → (y.isLit = false → z = y) → (∀ n q m, y = .iInt n → x = .int q m → fitI q n = true → z = .int q n) → Below w'.heap.size w' w3 → CoPost x y w (.returned (.tuple #[Value.iface 76 p, r])) w3)) :
    Calls Try.prog 55 #[Value.iface 76 p, Value.iface 75 q] w (CoPost x y w) := by
  go_enter Try.func55, Try.ntmps55
  go_wp2_with (first | (go_at_call_of 59 (Value.iface 76 p); refine k3.out.mono ?_; rintro e w' ⟨rfl, rfl⟩) | (go_at_call_of 56 (#[Value.iface 76 p, Value.iface 75 q]); refine k1.out.mono ?_; rintro e w1 ⟨z, r, rfl, hz, hr, hk, hi, hb⟩; have hz' := Lib.hid hz; have hr' := Lib.hid hr; have hi' := Lib.hid hi; have hb' := Lib.hid hb; clear hz hr hk hi hb) | (go_at_call_of 59 r; refine (k4.out z r _ hr'.out hb'.out).mono ?_; rintro e w2 ⟨b, rfl, rfl⟩) | (go_at_call_of 56 (#[Value.iface 75 q, Value.iface 76 p]); refine (k2.out _ hb'.out).mono ?_; rintro e w3 ⟨z3, r3, rfl, hz3, hr3, hk3, hi3, hb3⟩; have hp := Lib.hid (k6.out z3 r3 _ _ hb'.out hr3 hz3 hk3 hi3 hb3); clear hz3 hr3 hk3 hi3 hb3))
  · go_ret2
    exact k5.out z r _ hz'.out hi'.out hr'.out hb'.out
  · go_ret2
    exact hp.out

theorem up_co {w w' w'' : World} (h : Below w.heap.size w w') (h2 : Below w'.heap.size w' w'') : Below w.heap.size w w'' := h.trans (h2.mono h.size)

theorem coerce_ll (x y : SV) (hx : x.wf) (hy : y.wf) (u v : Value) (w : World) (hu : Rep w x u) (hv : Rep w y v) (hs : (x.tn == y.tn) = false) (lx : x.isLit = true) (ly : y.isLit = true) :
    Calls Try.prog 55 #[u, v] w (CoPost x y w) := by
  have k1 := coerce1_any x y hx u v w hu hv
  have k2 := (fun w' (hb : Below w.heap.size w w') => coerce1_any y x hy v u w' (hv.below hb) (hu.below hb))
  have k3 := sameT_any x y u v w hu hv
  rw [hs] at k3
  have k4 := fun z r w' (hr : Rep w' z r) (hb : Below w.heap.size w w') => sameT_some z y r v w' hr (hv.below hb)
  have k5 : ∀ z r w', z.wf → (∀ n q m, x = .iInt n → y = .int q m → fitI q n = true → z = .int q n) → Rep w' z r → Below w.heap.size w w' → CoPost x y w (.returned (.tuple #[r, v])) w' :=
    fun z r w' hz hi hr hb => ⟨z, y, _, _, rfl, hr, hv.below hb, lit_wf hz hy lx ly hi, hb⟩
  have k6 : ∀ z r w' w3, Below w.heap.size w w' → Rep w3 z r → z.wf → (y.isLit = false → z = y) → (∀ n q m, y = .iInt n → x = .int q m → fitI q n = true → z = .int q n) → Below w'.heap.size w' w3 → CoPost x y w (.returned (.tuple #[u, r])) w3 :=
    fun z r w' w3 hb hr hz hk hi hb3 => ⟨x, z, _, _, rfl, hu.below (up_co hb hb3), hr, together_r hx hz hk hi ly, up_co hb hb3⟩
  cases x with
  | iFloat n =>
    obtain rfl : u = _ := hu
    cases y with
    | iFloat m => exact absurd hs (by simp [SV.tn])
    | iInt m =>
      obtain rfl : v = _ := hv
      exact coerce_idealFloat_idealInt _ _ _ _ w k1 k2 k3 k4 k5 k6
    | iRune m =>
      obtain rfl : v = _ := hv
      exact coerce_idealFloat_idealRune _ _ _ _ w k1 k2 k3 k4 k5 k6
    | iUint m =>
      obtain rfl : v = _ := hv
      exact coerce_idealFloat_idealUint _ _ _ _ w k1 k2 k3 k4 k5 k6
    | _ => exact absurd ly (by simp [SV.isLit])
  | iInt n =>
    obtain rfl : u = _ := hu
    cases y with
    | iFloat m =>
      obtain rfl : v = _ := hv
      exact coerce_idealInt_idealFloat _ _ _ _ w k1 k2 k3 k4 k5 k6
    | iInt m => exact absurd hs (by simp [SV.tn])
    | iRune m =>
      obtain rfl : v = _ := hv
      exact coerce_idealInt_idealRune _ _ _ _ w k1 k2 k3 k4 k5 k6
    | iUint m =>
      obtain rfl : v = _ := hv
      exact coerce_idealInt_idealUint _ _ _ _ w k1 k2 k3 k4 k5 k6
    | _ => exact absurd ly (by simp [SV.isLit])
  | iRune n =>
    obtain rfl : u = _ := hu
    cases y with
    | iFloat m =>
      obtain rfl : v = _ := hv
      exact coerce_idealRune_idealFloat _ _ _ _ w k1 k2 k3 k4 k5 k6
    | iInt m =>
      obtain rfl : v = _ := hv
      exact coerce_idealRune_idealInt _ _ _ _ w k1 k2 k3 k4 k5 k6
    | iRune m => exact absurd hs (by simp [SV.tn])
    | iUint m =>
      obtain rfl : v = _ := hv
      exact coerce_idealRune_idealUint _ _ _ _ w k1 k2 k3 k4 k5 k6
    | _ => exact absurd ly (by simp [SV.isLit])
  | iUint n =>
    obtain rfl : u = _ := hu
    cases y with
    | iFloat m =>
      obtain rfl : v = _ := hv
      exact coerce_idealUint_idealFloat _ _ _ _ w k1 k2 k3 k4 k5 k6
    | iInt m =>
      obtain rfl : v = _ := hv
      exact coerce_idealUint_idealInt _ _ _ _ w k1 k2 k3 k4 k5 k6
    | iRune m =>
      obtain rfl : v = _ := hv
      exact coerce_idealUint_idealRune _ _ _ _ w k1 k2 k3 k4 k5 k6
    | iUint m => exact absurd hs (by simp [SV.tn])
    | _ => exact absurd ly (by simp [SV.isLit])
  | _ => exact absurd lx (by simp [SV.isLit])

theorem coerce_any (x y : SV) (hx : x.wf) (hy : y.wf) (u v : Value) (w : World) (hu : Rep w x u) (hv : Rep w y v) : Calls Try.prog 55 #[u, v] w (CoPost x y w) := by
  cases hs : (x.tn == y.tn) with
  | true => exact coerce_same x y hx hy u v w hu hv hs
  | false =>
    cases lx : x.isLit <;> cases ly : y.isLit
    · exact coerce_cc x y hx hy u v w hu hv hs lx ly
    · exact coerce_cl x y hx hy u v w hu hv hs lx ly
    · exact coerce_lc x y hx hy u v w hu hv hs lx ly
    · exact coerce_ll x y hx hy u v w hu hv hs lx ly

end Go.Proofs.Ytamekjbdpcflfaa
