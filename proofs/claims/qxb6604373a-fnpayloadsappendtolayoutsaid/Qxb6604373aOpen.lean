/-
  SEAT b6604373a. A [][]byte THAT CAME IN, as the walks are told of it.
-/
import Derived.Test.Qxb6604373aLists
import Derived.Deep.Matrix
namespace Go.Proofs.Qxb6604373a
open Go.RowKit
set_option linter.unusedVariables false

def IsList (w : World) (a : Option Addr) (len : Nat) : Prop := ∃ g o D, Lists w a g o len D ∧ (∀ j, j < len → (D j).n ≤ 9223372036854775807) ∧ len ≤ 9223372036854775807

theorem IsList.bare (w : World) : IsList w none 0 :=
  ⟨0, 0, fun _ => ⟨none, 0, 0, 0, 0, []⟩, ⟨fun h => absurd h (by omega), fun j hj => absurd hj (by omega), fun j hj => absurd hj (by omega), fun j hj => absurd hj (by omega)⟩, fun j hj => absurd hj (by omega), by omega⟩

theorem IsList.ofRows {w : World} {a : Addr} {len cap : Nat} {A : Nat → Option Addr} {L C : Nat → Nat} {Z : Nat → List Int} {base : Nat} (hl : len ≤ cap) (hm : cap ≤ maxLen)
    (h : ∀ r, r < cap → w.cell? (a.add r) = some (.slice (A r) (L r) (C r)) ∧ L r ≤ C r ∧ C r ≤ maxLen ∧ (Z r).length = C r ∧ (∀ n ∈ Z r, (Lit.int .u8 n).wf = true) ∧ (A r = none → C r = 0) ∧
        ∀ a', A r = some a' → base ≤ a'.block ∧ ∀ c, c < C r → w.cell? (a'.add c) = some (.int .u8 ((Z r).getD c 0))) : IsList w (some a) len := by
  have each : ∀ r, r < len → ∃ d : Item, d.ao = A r ∧ d.n = L r ∧ d.cap = C r ∧ Bytes w (A r) d.g d.o (L r) d.l ∧ L r ≤ 9223372036854775807 := by
    intro r hr
    obtain ⟨_, h2, h3, h4, h5, h6, h7⟩ := h r (by omega)
    have hrow : IsRow .u8 w (A r) (L r) (C r) (Z r) := by
      cases hA : A r with
      | none =>
        have hC := h6 hA
        exact .inl ⟨rfl, by omega, hC, List.eq_nil_of_length_eq_zero (by omega)⟩
      | some x => exact .inr ⟨x, rfl, h2, h3, h4, fun i hi => (h7 x hA).2 i (by omega), h5⟩
    obtain ⟨g, o, l, hb, hb2⟩ := Bytes.ofRow hrow
    exact ⟨⟨A r, g, o, L r, C r, l⟩, rfl, rfl, rfl, hb, hb2⟩
  have inh : Inhabited Item := ⟨⟨none, 0, 0, 0, 0, []⟩⟩
  obtain ⟨D, hD⟩ := Go.Deep.choose_lt each
  have hm' : len ≤ 9223372036854775807 := by unfold maxLen at hm; omega
  rcases Nat.eq_zero_or_pos len with h0 | h0
  · subst h0
    exact ⟨0, 0, D, ⟨fun h => absurd h (by omega), fun j hj => absurd hj (by omega), fun j hj => absurd hj (by omega), fun j hj => absurd hj (by omega)⟩, fun j hj => absurd hj (by omega), by omega⟩
  · obtain ⟨b, off, spot⟩ := a
    have hspot : spot = none := by simpa [Addr.add] using World.cell?_spot (h 0 (by omega)).1
    subst hspot
    refine ⟨b, off, D, ⟨fun _ => rfl, fun j hj => ?_, fun j hj => ?_, fun j hj => ?_⟩, fun j hj => ?_, hm'⟩
    · obtain ⟨e1, e2, e3, _⟩ := hD j hj
      have h1 := (h j (by omega)).1
      rw [Addr.add_lit] at h1
      rw [h1, e1, e2, e3]
    · obtain ⟨e1, e2, e3, hb, _⟩ := hD j hj
      rw [e1, e2]; exact hb
    · obtain ⟨e1, e2, e3, _⟩ := hD j hj
      rw [e1, e3]; exact (h j (by omega)).2.2.2.2.2.1
    · obtain ⟨e1, e2, e3, _, hb⟩ := hD j hj
      rw [e2]; exact hb

#print axioms IsList.ofRows
end Go.Proofs.Qxb6604373a
