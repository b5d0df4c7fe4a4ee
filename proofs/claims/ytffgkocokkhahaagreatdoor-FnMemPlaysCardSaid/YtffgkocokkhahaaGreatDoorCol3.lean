/-
  The order of two values is one of three numbers.
-/
import Derived.Test.YtffgkocokkhahaaGreatDoorSv
namespace Go.Proofs.YtffgkocokkhahaaGreatDoor

theorem coll_three (x y : SV) (px : x.plain) (py : y.plain) : x.coll y = -1 ∨ x.coll y = 0 ∨ x.coll y = 1 := by
  rw [coll_lex px py]
  have hz : bytesOrd x.text y.text = -1 ∨ bytesOrd x.text y.text = 0 ∨ bytesOrd x.text y.text = 1 := by
    rcases bytesOrd_cases x.text y.text with ⟨h, _⟩ | ⟨h, _⟩ | ⟨h, _⟩ <;> simp [h]
  unfold SV.lex
  generalize bytesOrd x.text y.text = z at *
  repeat' split
  all_goals omega

end Go.Proofs.YtffgkocokkhahaaGreatDoor
