/-
  SEAT b6604414a. A []string THAT CAME IN, as the walks are told of it.
-/
import Derived.Test.Qxb6604414aStrs
import Derived.Deep.Strs
namespace Go.Proofs.Qxb6604414a
open Go.RowKit
set_option linter.unusedVariables false

def IsStrs (w : World) (a : Option Addr) (len : Nat) : Prop := ∃ g o S, Strs w a g o len S ∧ len ≤ 9223372036854775807 ∧ ∀ j, j < len → (S j).size ≤ 9223372036854775807

theorem IsStrs.bare (w : World) : IsStrs w none 0 :=
  ⟨0, 0, fun _ => ⟨#[]⟩, ⟨fun h => absurd h (by omega), fun j hj => absurd hj (by omega)⟩, by omega, fun j hj => absurd hj (by omega)⟩

theorem IsStrs.ofCells {w : World} {a : Addr} {len cap : Nat} {S : Nat → ByteArray} (hl : len ≤ cap) (hm : cap ≤ maxLen) (h : ∀ i, i < cap → w.cell? (a.add i) = some (.string (S i)) ∧ (S i).size ≤ maxLen) : IsStrs w (some a) len := by
  unfold maxLen at hm h
  rcases Nat.eq_zero_or_pos len with h0 | h0
  · subst h0
    exact ⟨0, 0, S, ⟨fun h => absurd h (by omega), fun j hj => absurd hj (by omega)⟩, by omega, fun j hj => absurd hj (by omega)⟩
  · obtain ⟨b, off, spot⟩ := a
    have hspot : spot = none := by simpa [Addr.add] using World.cell?_spot (h 0 (by omega)).1
    subst hspot
    refine ⟨b, off, S, ⟨fun _ => rfl, fun j hj => ?_⟩, by omega, fun j hj => by have := (h j (by omega)).2; omega⟩
    have h1 := (h j (by omega)).1
    rwa [Addr.add_lit] at h1

#print axioms IsStrs.ofCells
end Go.Proofs.Qxb6604414a
