/-
  SEAT b6604414a. A ROW OF STRINGS THAT CAME IN ('Strs'); the bounds on the lengths (9, 14); zzJB1Add (10), zzJB1StrBytes (11).
-/
import Derived.Test.Qxb6604414aRows
import Derived.WalkKit
import Derived.WalkSpells
import Derived.WalkLawsBesides
import Derived.Deep.QuietTactic
import Derived.BigQuiet
namespace Go.Proofs.Qxb6604414a
open Go.RowKit
set_option linter.unusedVariables false

/-- WHAT A READER IS TOLD OF A ROW OF STRINGS. -/
structure Strs (w : World) (ao : Option Addr) (g o n : Nat) (S : Nat → ByteArray) : Prop where
  addr : 0 < n → ao = some ⟨g, o, none⟩
  cell : ∀ j, j < n → w.cell? ⟨g, o + j, none⟩ = some (.string (S j))

theorem Strs.lt {w : World} {ao : Option Addr} {g o n : Nat} {S : Nat → ByteArray} (h : Strs w ao g o n S) (hn : 0 < n) : g < w.heap.size :=
  World.block_lt_of_cell? w ⟨g, o + 0, none⟩ (h.cell 0 hn)

theorem Strs.below {B : Nat} {w w' : World} {ao : Option Addr} {g o n : Nat} {S : Nat → ByteArray} (h : Strs w ao g o n S) (hb : Below B w w') (hB : 0 < n → g < B) : Strs w' ao g o n S :=
  ⟨h.addr, fun j hj => (hb.cell (p := ⟨g, o + j, none⟩) (hB (by omega))).trans (h.cell j hj)⟩

theorem Strs.drewN {w : World} {ao : Option Addr} {g o n : Nat} {S : Nat → ByteArray} (h : Strs w ao g o n S) (m : Nat) : Strs (w.drewN m) ao g o n S := ⟨h.addr, h.cell⟩

theorem below_drewN {B : Nat} {a w : World} (h : Below B a w) (n : Nat) : Below B a (w.drewN n) := ⟨h.os, h.tape, h.output, h.size, h.block⟩

/-- It answers some bool, and if it answers true, P. -/
def BoolThen (e : Ending) (P : Prop) : Prop := ∃ b, e = .returned (.bool b) ∧ (b = true → P)
theorem BoolThen.no (P : Prop) : BoolThen (.returned (.bool false)) P := ⟨false, rfl, fun h => by cases h⟩
theorem BoolThen.yes {P : Prop} (h : P) : BoolThen (.returned (.bool true)) P := ⟨true, rfl, fun _ => h⟩

def Small (n : Nat) (S : Nat → ByteArray) : Prop := ∀ j, j < n → (S j).size ≤ 1048576

theorem Small.step {k : Nat} {S : Nat → ByteArray} (h : Small k S) (hs : (S k).size ≤ 1048576) : Small (k + 1) S := fun j hj => by
  by_cases e : j = k
  · subst e; exact hs
  · exact h j (by omega)

set_option maxHeartbeats 1000000 in
set_option maxRecDepth 100000 in
theorem zb9_any (ao : Option Addr) (g o n c : Nat) (K : Nat → ByteArray) (ao2 : Option Addr) (g2 o2 n2 c2 : Nat) (T : Nat → ByteArray) (w : World) (hK : Strs w ao g o n K) (hT : Strs w ao2 g2 o2 n2 T) :
    Calls Try.prog 9 #[.slice ao n c, .slice ao2 n2 c2] w fun e w' => BoolThen e (Small n K ∧ Small n2 T) ∧ w' = w := by
  have HK : Hid (Strs w ao g o n K) := hK
  have HT : Hid (Strs w ao2 g2 o2 n2 T) := hT
  clear hK hT
  by_cases c1 : n ≤ 1048576
  · go_enter Try.func9, Try.ntmps9
    go_wp2
    go_loop [5, 6] (fun vz vi => ∃ k z : Nat, k ≤ n ∧ vi = .int .i64 k ∧ vz = .int .i64 z ∧ z ≤ 1048576 ∧ Small k K) (fun _ vi => n - (intOf vi).toNat)
    case atStart => exact ⟨0, n, by omega, rfl, rfl, by omega, fun j hj => absurd hj (by omega)⟩
    case round =>
      obtain ⟨k, z, hk, rfl, rfl, hz, hsm⟩ := hrel
      have HSM : Hid (Small k K) := hsm
      clear hsm
      by_cases hlt : k < n
      · have hl := HK.out
        obtain rfl := hl.addr (by omega)
        have hc := hl.cell k hlt
        clear hl
        by_cases d1 : (K k).size ≤ 1048576
        · by_cases d2 : z + (K k).size ≤ 1048576
          · go_wp2
            go_round
            case rel => exact ⟨k + 1, z + (K k).size, by omega, by go_num, by go_num, by omega, HSM.out.step d1⟩
            case measure => simp [intOf]; omega
          · go_wp2
            go_ret
            exact ⟨BoolThen.no _, rfl⟩
        · go_wp2
          go_ret
          exact ⟨BoolThen.no _, rfl⟩
      · obtain rfl : k = n := by omega
        by_cases d1 : n2 ≤ 1048576
        · by_cases d2 : z + n2 ≤ 1048576
          · go_wp2
            go_loop [5, 7] (fun vz vi => ∃ t z : Nat, t ≤ n2 ∧ vi = .int .i64 t ∧ vz = .int .i64 z ∧ z ≤ 1048576 ∧ Small t T) (fun _ vi => n2 - (intOf vi).toNat)
            case atStart => exact ⟨0, z + n2, by omega, rfl, by go_num, by omega, fun j hj => absurd hj (by omega)⟩
            case round =>
              obtain ⟨t, y, ht, rfl, rfl, hy, hsm⟩ := hrel
              have HST : Hid (Small t T) := hsm
              clear hsm
              by_cases hlt2 : t < n2
              · have hl := HT.out
                obtain rfl := hl.addr (by omega)
                have hc := hl.cell t hlt2
                clear hl
                by_cases e1 : (T t).size ≤ 1048576
                · by_cases e2 : y + (T t).size ≤ 1048576
                  · go_wp2
                    go_round
                    case rel => exact ⟨t + 1, y + (T t).size, by omega, by go_num, by go_num, by omega, HST.out.step e1⟩
                    case measure => simp [intOf]; omega
                  · go_wp2
                    go_ret
                    exact ⟨BoolThen.no _, rfl⟩
                · go_wp2
                  go_ret
                  exact ⟨BoolThen.no _, rfl⟩
              · obtain rfl : t = n2 := by omega
                go_wp2
                go_ret
                exact ⟨BoolThen.yes ⟨HSM.out, HST.out⟩, rfl⟩
          · go_wp2
            go_ret
            exact ⟨BoolThen.no _, rfl⟩
        · go_wp2
          go_ret
          exact ⟨BoolThen.no _, rfl⟩
  · go_enter Try.func9, Try.ntmps9
    go_wp2
    go_ret
    exact ⟨BoolThen.no _, rfl⟩

/-- zzJB1Add: some number up to 2^21. -/
theorem add_any (a b : Nat) (w : World) (ha : a ≤ 9223372036854775807) (hb : b ≤ 9223372036854775807) :
    Calls Try.prog 10 #[.int .i64 a, .int .i64 b] w fun e w' => ∃ r : Nat, e = .returned (.int .i64 r) ∧ r ≤ 2097152 ∧ w' = w := by
  by_cases c1 : a ≤ 1048576
  · by_cases c2 : b ≤ 1048576
    · go_enter Try.func10, Try.ntmps10
      go_wp2
      go_ret
      exact ⟨a + b, by go_num, by omega, rfl⟩
    · go_enter Try.func10, Try.ntmps10
      go_wp2
      go_ret
      exact ⟨1048577, rfl, by omega, rfl⟩
  · go_enter Try.func10, Try.ntmps10
    go_wp2
    go_ret
    exact ⟨1048577, rfl, by omega, rfl⟩

set_option maxHeartbeats 1000000 in
set_option maxRecDepth 100000 in
theorem sb_any (ao : Option Addr) (g o n c : Nat) (K : Nat → ByteArray) (w : World) (hK : Strs w ao g o n K) (hS : ∀ j, j < n → (K j).size ≤ 9223372036854775807) :
    Calls Try.prog 11 #[.slice ao n c] w fun e w' => ∃ r : Nat, e = .returned (.int .i64 r) ∧ r ≤ 2097152 ∧ w' = w := by
  have HK : Hid (Strs w ao g o n K) := hK
  have HS : Hid (∀ j, j < n → (K j).size ≤ 9223372036854775807) := hS
  clear hK hS
  by_cases c1 : n ≤ 131072
  · go_enter Try.func11, Try.ntmps11
    go_wp2
    go_loop [3, 4] (fun vz vi => ∃ k z : Nat, k ≤ n ∧ vi = .int .i64 k ∧ vz = .int .i64 z ∧ z ≤ 2097152) (fun _ vi => n - (intOf vi).toNat)
    case atStart => exact ⟨0, 16 * n, by omega, rfl, by go_num, by omega⟩
    case round =>
      obtain ⟨k, z, hk, rfl, rfl, hz⟩ := hrel
      by_cases hlt : k < n
      · have hl := HK.out
        obtain rfl := hl.addr (by omega)
        have hc := hl.cell k hlt
        have hs := HS.out k hlt
        clear hl
        go_wp2_with fail
        refine (add_any z (K k).size w (by omega) hs).mono ?_
        rintro e w1 ⟨r, rfl, hr, hw1⟩; subst w1
        go_wp2_with fail
        go_round
        case rel => exact ⟨k + 1, r, by omega, by go_num, rfl, hr⟩
        case measure => simp [intOf]; omega
      · go_wp2
        go_ret
        exact ⟨z, rfl, hz, rfl⟩
  · go_enter Try.func11, Try.ntmps11
    go_wp2
    go_ret
    exact ⟨1048577, rfl, by omega, rfl⟩

#print axioms sb_any
end Go.Proofs.Qxb6604414a
