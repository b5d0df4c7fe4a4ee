/-
  A region that draws its order, whose operations only read old cells and whose callees lay new blocks alone: walked once. Of no program.
-/
import Derived.Deep.QuietTactic
import Derived.Below
namespace Go.Proofs.YtffgkocokkhahaaGreatDoor
open Go.RowKit

/-- A world in which everything that W has is as it is in W. -/
structure BW (W : World) where
  w : World
  h : Below W.heap.size W w

instance (W : World) : Inhabited (BW W) := ⟨⟨W, Below.refl _ _⟩⟩

theorem wp_region_bw {P : Program} {id : Nat} {Q : Exit → Act → World → Prop} {a : Act} {W : World} {l : List Oper} (hm : P.follows .mixedOrders = true) (hB : Region.lexB .any l.toArray = true)
    (h : wpQuiet P l.toArray (fun w' => ∃ p : BW W, w' = p.w) (fun a' => ∀ w', (∃ p : BW W, w' = p.w) → Q .normal a' w') l a) : (Code.region id l.toArray true).wp P Q a W :=
  wp_region_quiet (C := fun w' => ∃ p : BW W, w' = p.w) hm hB ⟨⟨_, (Below.refl _ _).drew⟩, rfl⟩ (by simpa using h)

@[go_sem] theorem BW.cell {W : World} (p : BW W) (b o : Nat) (hb : b < W.heap.size) : p.w.cell? ⟨b, o, none⟩ = W.cell? ⟨b, o, none⟩ := p.h.cell (p := ⟨b, o, none⟩) hb
@[go_sem] theorem BW.frozen {W : World} (p : BW W) (b o : Nat) (hb : b < W.heap.size) : p.w.frozen? ⟨b, o, none⟩ = W.frozen? ⟨b, o, none⟩ := p.h.frozen (p := ⟨b, o, none⟩) hb

theorem bw_of {P : Program} {f : FuncId} {args : Array Value} {W : World} {p : BW W} {v : Value}
    (h : Calls P f args p.w fun e w' => e = .returned v ∧ Below p.w.heap.size p.w w') : Calls P f args p.w fun e w'' => e = .returned v ∧ ∃ q : BW W, w'' = q.w :=
  h.mono fun _ _ ⟨he, hb⟩ => ⟨he, ⟨_, p.h.trans (hb.mono p.h.size)⟩, rfl⟩

end Go.Proofs.YtffgkocokkhahaaGreatDoor
