/-
  SEAT b6604414a. THE WALK OF FnKeysAndTextsCopiesEach (3).
-/
import Derived.Test.Qxb6604414aItems
namespace Go.Proofs.Qxb6604414a
open Go.RowKit
set_option linter.unusedVariables false

/-- The same, in one form for nil and for a table. -/
theorem Its.form {w : World} {v : Value} {isNil : Bool} {B n : Nat} {K T : Nat → ByteArray} (h : Its w v isNil B n K T) :
    ∃ ao, v = .slice ao n n ∧ ao.isNone = isNil ∧ (0 < n → ao = some ⟨B, 0, none⟩ ∧ Tab w B n n K T) := by
  rcases h with ⟨rfl, rfl, rfl⟩ | ⟨rfl, rfl, ht⟩
  · exact ⟨none, rfl, rfl, fun h => absurd h (by omega)⟩
  · exact ⟨_, rfl, rfl, fun _ => ⟨rfl, ht⟩⟩

/-- The block of a table whose items from k on still hold K, T. -/
def Rest (w : World) (B n k : Nat) (K T : Nat → ByteArray) : Prop :=
  ∃ cur, w.heap[B]? = some (.cells cur 30 (0, 0)) ∧ cur.size = n * 2 ∧ ∀ j, k ≤ j → j < n → cur[j * 2]? = some (.string (K j)) ∧ cur[j * 2 + 1]? = some (.string (T j))

theorem Tab.rest {w : World} {B n : Nat} {K T : Nat → ByteArray} (h : Tab w B n n K T) : Rest w B n 0 K T := by
  obtain ⟨cur, h1, h2, h3⟩ := h
  exact ⟨cur, h1, h2, fun j _ hj => h3 j hj⟩

theorem Rest.at {w : World} {B n k : Nat} {K T : Nat → ByteArray} (h : Rest w B n k K T) (hk : k < n) :
    w.cell? ⟨B, k * 2, none⟩ = some (.string (K k)) ∧ w.cell? ⟨B, k * 2 + 1, none⟩ = some (.string (T k)) ∧ w.frozen? ⟨B, k * 2, none⟩ = false ∧ w.frozen? ⟨B, k * 2 + 1, none⟩ = false := by
  obtain ⟨cur, h1, h2, h3⟩ := h
  exact ⟨(cell_of_row w B (k * 2) cur 30 (0, 0) h1).trans (h3 k (Nat.le_refl _) hk).1, (cell_of_row w B (k * 2 + 1) cur 30 (0, 0) h1).trans (h3 k (Nat.le_refl _) hk).2, frozen_of_row w B _ cur 30 h1, frozen_of_row w B _ cur 30 h1⟩

theorem Rest.set {w : World} {B n k : Nat} {K T : Nat → ByteArray} (h : Rest w B n k K T) (i : Nat) (hi : i < (k + 1) * 2) (u : Value) : Rest (w.setCell ⟨B, i, none⟩ u) B n (k + 1) K T := by
  obtain ⟨cur, h1, h2, h3⟩ := h
  refine ⟨_, heap_setCell_same w B i cur 30 u h1, by simpa using h2, fun j hj hjn => ?_⟩
  rw [Array.getElem?_setIfInBounds_ne (by omega), Array.getElem?_setIfInBounds_ne (by omega)]
  exact h3 j (by omega) hjn

theorem Rest.carry {w w' : World} {B n k : Nat} {K T : Nat → ByteArray} (h : Rest w B n k K T) (he : w'.heap[B]? = w.heap[B]?) : Rest w' B n k K T := by
  obtain ⟨cur, h1, h2⟩ := h
  exact ⟨cur, he.trans h1, h2⟩

set_option maxHeartbeats 4000000 in
set_option maxRecDepth 100000 in
theorem lawA (ao : Option Addr) (g o n c : Nat) (K : Nat → ByteArray) (ao2 : Option Addr) (g2 o2 n2 c2 : Nat) (T : Nat → ByteArray) (w : World) (hK : Strs w ao g o n K) (hT : Strs w ao2 g2 o2 n2 T)
    (hn : n ≤ 9223372036854775807) (hn2 : n2 ≤ 9223372036854775807) (hKs : ∀ j, j < n → (K j).size ≤ 9223372036854775807) (hTs : ∀ j, j < n2 → (T j).size ≤ 9223372036854775807) :
    Calls Try.prog 3 #[.slice ao n c, .slice ao2 n2 c2] w fun e w' => e = .returned (.bool true) ∧ Below w.heap.size w w' := by
  have HK : Hid (Strs w ao g o n K) := hK
  have HT : Hid (Strs w ao2 g2 o2 n2 T) := hT
  have hz := zb9_any ao g o n c K ao2 g2 o2 n2 c2 T w hK hT
  have s1 := sb_any ao g o n c K w hK hKs
  have s2 := sb_any ao2 g2 o2 n2 c2 T w hT hTs
  clear hK hT hKs hTs
  by_cases c1 : n ≤ 65536
  · by_cases c3 : n2 ≤ 65536
    · go_enter Try.func3, Try.ntmps3
      go_wp2_with fail
      refine hz.mono ?_
      rintro e wz ⟨⟨bz, rfl, hsm⟩, hwz⟩; subst wz
      clear hz
      cases bz with
      | false =>
        go_wp2_with fail
        go_ret
        exact ⟨rfl, Below.refl _ _⟩
      | true =>
        have HSK : Hid (Small n K) := (hsm rfl).1
        have HST : Hid (Small n2 T) := (hsm rfl).2
        clear hsm
        go_wp2_with fail
        refine s1.mono ?_
        rintro e wz ⟨r1, rfl, hr1, hwz⟩; subst wz
        clear s1
        go_wp2_with fail
        refine s2.mono ?_
        rintro e wz ⟨r2, rfl, hr2, hwz⟩; subst wz
        clear s2
        go_wp2_with fail
        refine (add_any r1 r2 w (by omega) (by omega)).mono ?_
        rintro e wz ⟨r3, rfl, hr3, hwz⟩; subst wz
        by_cases c4 : r3 ≤ 1048576
        · by_cases c5 : n2 = n
          · subst c5
            go_wp2_with fail
            refine (items_any ao g o n2 c K ao2 g2 o2 c2 T w HK.out HT.out c1).mono ?_
            rintro e w1 ⟨v1, rfl, it1, b1⟩
            go_wp2_with fail
            refine (zkt_any v1 _ _ n2 K T w1 it1 c1).mono ?_
            rintro e w2 ⟨v2, rfl, it2, b2⟩
            obtain ⟨ai, rfl, ni, ti⟩ := it1.form
            obtain ⟨aq, rfl, nq, tq⟩ := it2.form
            have z1 := b1.size
            have z2 := b2.size
            have hq1 := eqlNil26
            have hq2 := eqlNil22
            have TI : Hid (0 < n2 → ai = some ⟨w.heap.size, 0, none⟩ ∧ Tab w2 w.heap.size n2 n2 K T) := fun h => ⟨(ti h).1, (ti h).2.below b2 (ti h).2.lt⟩
            have TQ : Hid (0 < n2 → aq = some ⟨w1.heap.size, 0, none⟩ ∧ Tab w2 w1.heap.size n2 n2 K T) := tq
            have HK2 : Hid (Strs w2 ao g o n2 K) := HK.out.below (b1.trans (b2.mono z1)) HK.out.lt
            have HT2 : Hid (Strs w2 ao2 g2 o2 n2 T) := HT.out.below (b1.trans (b2.mono z1)) HT.out.lt
            have gK : 0 < n2 → g < w.heap.size := HK.out.lt
            have gT : 0 < n2 → g2 < w.heap.size := HT.out.lt
            have BB : Hid (Below w.heap.size w w2) := b1.trans (b2.mono z1)
            have hbi : 0 < n2 → w.heap.size < w1.heap.size := fun h => (ti h).2.lt
            clear it1 it2 b1 b2 ni ti tq HK HT
            obtain ⟨Bi, hBi⟩ : ∃ b, b = w.heap.size := ⟨_, rfl⟩
            obtain ⟨Bo, hBo⟩ : ∃ b, b = w1.heap.size := ⟨_, rfl⟩
            rw [← hBi] at TI gK gT hbi
            rw [← hBo] at TQ hbi
            have HBi : Hid (Bi = w.heap.size) := hBi
            have HBo : Hid (Bo = w1.heap.size) := hBo
            have hBio : Bi ≤ Bo := by omega
            clear hBi hBo z1 z2
            go_wp2_with fail
            -- the copies hold what keys and texts hold
            go_loopw [7] (fun vi wr => ∃ k m : Nat, k ≤ n2 ∧ vi = .int .i64 k ∧ wr = w2.drewN m) (fun vi _ => n2 - (intOf vi).toNat)
            case atStart => exact ⟨0, 0, by omega, rfl, rfl⟩
            case round =>
              obtain ⟨k, m, hk, rfl, rfl⟩ := hrel
              by_cases hlt : k < n2
              · obtain ⟨rfl, tq⟩ := TQ.out (by omega)
                obtain rfl := HK2.out.addr (by omega)
                obtain rfl := HT2.out.addr (by omega)
                have d1 := tq.cell0 k hlt
                have d2 := tq.cell1 k hlt
                have d3 := HK2.out.cell k hlt
                have d4 := HT2.out.cell k hlt
                have hkn : (k : Int) < (n2 : Int) := by omega
                clear tq
                go_wp2_with fail
                go_quiet (fail)
                go_wp2_with fail
                go_roundw
                case rel => first | exact ⟨k + 1, _, by omega, by go_num, rfl⟩ | ((repeat apply Exists.intro); exact ⟨⟨k + 1, _, by omega, by go_num, rfl⟩, rfl⟩)
                case measure => simp [intOf]; omega
              · -- each copy is written over
                have R0 : Hid (0 < n2 → Rest (w2.drewN m) Bo n2 0 K T) := fun h => (TQ.out h).2.rest.carry rfl
                go_wp2_with fail
                go_loopw [8] (fun vi wr => ∃ j : Nat, j ≤ n2 ∧ vi = .int .i64 j ∧ (0 < n2 → Rest wr Bo n2 j K T) ∧ Below Bo w2 wr) (fun vi _ => n2 - (intOf vi).toNat)
                case atStart => exact ⟨0, by omega, rfl, R0, below_drewN (Below.refl _ _) m⟩
                case round =>
                  obtain ⟨j, hj, rfl, hre, hbe⟩ := hrel
                  have HRE : Hid (0 < n2 → Rest wr Bo n2 j K T) := hre
                  have HBE : Hid (Below Bo w2 wr) := hbe
                  clear hre hbe R0
                  by_cases hjn : j < n2
                  · obtain ⟨rfl, _⟩ := TQ.out (by omega)
                    have rr := HRE.out (by omega)
                    obtain ⟨e1, e2, e3, e4⟩ := rr.at hjn
                    have k1 := HSK.out j hjn
                    have k2 := HST.out j hjn
                    have hjn' : (j : Int) < (n2 : Int) := by omega
                    have RS : Hid (∀ u1 u2, Rest ((wr.setCell ⟨Bo, j * 2, none⟩ u1).setCell ⟨Bo, j * 2 + 1, none⟩ u2) Bo n2 (j + 1) K T) := fun u1 u2 => by
                      have a := rr.set (j * 2) (by omega) u1
                      obtain ⟨cur, h1, h2, h3⟩ := a
                      refine ⟨_, heap_setCell_same _ Bo (j * 2 + 1) cur 30 u2 h1, by simpa using h2, fun i hi hin => ?_⟩
                      rw [Array.getElem?_setIfInBounds_ne (by omega), Array.getElem?_setIfInBounds_ne (by omega)]
                      exact h3 i hi hin
                    clear rr
                    go_wp2_with fail
                    go_roundw
                    case rel => exact ⟨j + 1, by omega, by go_num, fun _ => RS.out _ _, (HBE.out.setCell (Nat.le_refl _) _).setCell (Nat.le_refl _) _⟩
                    case measure => simp [intOf]; omega
                  · -- and the items are as they were
                    go_wp2_with fail
                    go_loopw [9] (fun vi wy => ∃ t m : Nat, t ≤ n2 ∧ vi = .int .i64 t ∧ wy = wr.drewN m) (fun vi _ => n2 - (intOf vi).toNat)
                    case atStart => exact ⟨0, 0, by omega, rfl, rfl⟩
                    case round =>
                      obtain ⟨t, m2, ht, rfl, rfl⟩ := hrel
                      by_cases htn : t < n2
                      · obtain ⟨rfl, ti⟩ := TI.out (by omega)
                        obtain rfl := HK2.out.addr (by omega)
                        obtain rfl := HT2.out.addr (by omega)
                        have hb1 := hbi (by omega)
                        have ti2 := ti.below HBE.out hb1
                        have d1 := ti2.cell0 t htn
                        have d2 := ti2.cell1 t htn
                        have d3 := (HK2.out.below HBE.out (fun h => by have := gK h; omega)).cell t htn
                        have d4 := (HT2.out.below HBE.out (fun h => by have := gT h; omega)).cell t htn
                        have htn' : (t : Int) < (n2 : Int) := by omega
                        clear ti ti2
                        go_wp2_with fail
                        go_quiet (fail)
                        go_wp2_with fail
                        go_roundw
                        case rel => first | exact ⟨t + 1, _, by omega, by go_num, rfl⟩ | ((repeat apply Exists.intro); exact ⟨⟨t + 1, _, by omega, by go_num, rfl⟩, rfl⟩)
                        case measure => simp [intOf]; omega
                      · go_wp2_with fail
                        go_ret
                        exact ⟨rfl, below_drewN (BB.out.trans (HBE.out.mono (by have := HBi.out; omega))) m2⟩
          · go_wp2_with fail
            go_ret
            exact ⟨rfl, Below.refl _ _⟩
        · go_wp2_with fail
          go_ret
          exact ⟨rfl, Below.refl _ _⟩
    · go_enter Try.func3, Try.ntmps3
      go_wp2_with fail
      refine hz.mono ?_
      rintro e wz ⟨⟨bz, rfl, hsm⟩, hwz⟩; subst wz
      clear hz
      cases bz with
      | false =>
        go_wp2_with fail
        go_ret
        exact ⟨rfl, Below.refl _ _⟩
      | true =>
        clear hsm
        go_wp2_with fail
        go_ret
        exact ⟨rfl, Below.refl _ _⟩
  · go_enter Try.func3, Try.ntmps3
    go_wp2_with fail
    refine hz.mono ?_
    rintro e wz ⟨⟨bz, rfl, hsm⟩, hwz⟩; subst wz
    clear hz
    cases bz with
    | false =>
      go_wp2_with fail
      go_ret
      exact ⟨rfl, Below.refl _ _⟩
    | true =>
      clear hsm
      go_wp2_with fail
      go_ret
      exact ⟨rfl, Below.refl _ _⟩

#print axioms lawA
end Go.Proofs.Qxb6604414a
