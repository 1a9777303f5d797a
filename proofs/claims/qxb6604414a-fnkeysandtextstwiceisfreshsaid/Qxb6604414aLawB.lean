/-
  SEAT b6604414a. THE WALK OF FnKeysAndTextsTwiceIsFresh (4).
-/
import Derived.Test.Qxb6604414aLawA
namespace Go.Proofs.Qxb6604414a
open Go.RowKit
set_option linter.unusedVariables false

set_option maxHeartbeats 1000000 in
set_option maxRecDepth 100000 in
theorem zb14_any (ao : Option Addr) (g o n c : Nat) (K : Nat → ByteArray) (ao2 : Option Addr) (g2 o2 n2 c2 : Nat) (T : Nat → ByteArray) (w : World) (hK : Strs w ao g o n K) (hT : Strs w ao2 g2 o2 n2 T) :
    Calls Try.prog 14 #[.slice ao n c, .slice ao2 n2 c2] w fun e w' => BoolThen e (Small n K ∧ Small n2 T) ∧ w' = w := by
  have HK : Hid (Strs w ao g o n K) := hK
  have HT : Hid (Strs w ao2 g2 o2 n2 T) := hT
  clear hK hT
  by_cases c1 : n ≤ 1048576
  · go_enter Try.func14, Try.ntmps14
    go_wp2
    go_loop [5, 6] (fun vz vi => ∃ k z : Nat, k ≤ n ∧ vi = .int .i64 k ∧ vz = .int .i64 z ∧ z ≤ 1048576 ∧ Small k K) (fun _ vi => n - (intOf vi).toNat)
    case atStart => exact ⟨0, n, by omega, rfl, rfl, by omega, fun j hj => absurd hj (by omega)⟩
    case round =>
      obtain ⟨k, z, hk, rfl, rfl, hz, hsm⟩ := hrel
      have HSM : Hid (Small k K) := hsm
      clear hsm
      by_cases hlt : k < n
      · have hl := HK.out
        obtain rfl := hl.addr (by omega)
        have hc := hl.cell k hlt
        clear hl
        by_cases d1 : (K k).size ≤ 1048576
        · by_cases d2 : z + (K k).size ≤ 1048576
          · go_wp2
            go_round
            case rel => exact ⟨k + 1, z + (K k).size, by omega, by go_num, by go_num, by omega, HSM.out.step d1⟩
            case measure => simp [intOf]; omega
          · go_wp2
            go_ret
            exact ⟨BoolThen.no _, rfl⟩
        · go_wp2
          go_ret
          exact ⟨BoolThen.no _, rfl⟩
      · obtain rfl : k = n := by omega
        by_cases d1 : n2 ≤ 1048576
        · by_cases d2 : z + n2 ≤ 1048576
          · go_wp2
            go_loop [5, 7] (fun vz vi => ∃ t z : Nat, t ≤ n2 ∧ vi = .int .i64 t ∧ vz = .int .i64 z ∧ z ≤ 1048576 ∧ Small t T) (fun _ vi => n2 - (intOf vi).toNat)
            case atStart => exact ⟨0, z + n2, by omega, rfl, by go_num, by omega, fun j hj => absurd hj (by omega)⟩
            case round =>
              obtain ⟨t, y, ht, rfl, rfl, hy, hsm⟩ := hrel
              have HST : Hid (Small t T) := hsm
              clear hsm
              by_cases hlt2 : t < n2
              · have hl := HT.out
                obtain rfl := hl.addr (by omega)
                have hc := hl.cell t hlt2
                clear hl
                by_cases e1 : (T t).size ≤ 1048576
                · by_cases e2 : y + (T t).size ≤ 1048576
                  · go_wp2
                    go_round
                    case rel => exact ⟨t + 1, y + (T t).size, by omega, by go_num, by go_num, by omega, HST.out.step e1⟩
                    case measure => simp [intOf]; omega
                  · go_wp2
                    go_ret
                    exact ⟨BoolThen.no _, rfl⟩
                · go_wp2
                  go_ret
                  exact ⟨BoolThen.no _, rfl⟩
              · obtain rfl : t = n2 := by omega
                go_wp2
                go_ret
                exact ⟨BoolThen.yes ⟨HSM.out, HST.out⟩, rfl⟩
          · go_wp2
            go_ret
            exact ⟨BoolThen.no _, rfl⟩
        · go_wp2
          go_ret
          exact ⟨BoolThen.no _, rfl⟩
  · go_enter Try.func14, Try.ntmps14
    go_wp2
    go_ret
    exact ⟨BoolThen.no _, rfl⟩

set_option maxHeartbeats 4000000 in
set_option maxRecDepth 100000 in
theorem lawB (ao : Option Addr) (g o n c : Nat) (K : Nat → ByteArray) (ao2 : Option Addr) (g2 o2 n2 c2 : Nat) (T : Nat → ByteArray) (w : World) (hK : Strs w ao g o n K) (hT : Strs w ao2 g2 o2 n2 T)
    (hn : n ≤ 9223372036854775807) (hn2 : n2 ≤ 9223372036854775807) (hKs : ∀ j, j < n → (K j).size ≤ 9223372036854775807) (hTs : ∀ j, j < n2 → (T j).size ≤ 9223372036854775807) :
    Calls Try.prog 4 #[.slice ao n c, .slice ao2 n2 c2] w fun e w' => e = .returned (.bool true) ∧ Below w.heap.size w w' := by
  have HK : Hid (Strs w ao g o n K) := hK
  have HT : Hid (Strs w ao2 g2 o2 n2 T) := hT
  have hz := zb14_any ao g o n c K ao2 g2 o2 n2 c2 T w hK hT
  have s1 := sb_any ao g o n c K w hK hKs
  have s2 := sb_any ao2 g2 o2 n2 c2 T w hT hTs
  clear hK hT hKs hTs
  by_cases c1 : n ≤ 65536
  · by_cases c3 : n2 ≤ 65536
    · go_enter Try.func4, Try.ntmps4
      go_wp2_with fail
      refine hz.mono ?_
      rintro e wz ⟨⟨bz, rfl, hsm⟩, hwz⟩; subst wz
      clear hz
      cases bz with
      | false =>
        go_wp2_with fail
        go_ret
        exact ⟨rfl, Below.refl _ _⟩
      | true =>
        have HSK : Hid (Small n K) := (hsm rfl).1
        have HST : Hid (Small n2 T) := (hsm rfl).2
        clear hsm
        go_wp2_with fail
        refine s1.mono ?_
        rintro e wz ⟨r1, rfl, hr1, hwz⟩; subst wz
        clear s1
        go_wp2_with fail
        refine s2.mono ?_
        rintro e wz ⟨r2, rfl, hr2, hwz⟩; subst wz
        clear s2
        go_wp2_with fail
        refine (add_any r1 r2 w (by omega) (by omega)).mono ?_
        rintro e wz ⟨r3, rfl, hr3, hwz⟩; subst wz
        by_cases c4 : r3 ≤ 1048576
        · by_cases c5 : n2 = n
          · subst c5
            go_wp2_with fail
            refine (items_any ao g o n2 c K ao2 g2 o2 c2 T w HK.out HT.out c1).mono ?_
            rintro e w1 ⟨v1, rfl, it1, b1⟩
            go_wp2_with fail
            refine (zkt_any v1 _ _ n2 K T w1 it1 c1).mono ?_
            rintro e w2 ⟨v2, rfl, it2, b2⟩
            go_wp2_with fail
            refine (zkt_any v2 _ _ n2 K T w2 it2 c1).mono ?_
            rintro e w3 ⟨v3, rfl, it3, b3⟩
            obtain ⟨ai, rfl, ni, ti⟩ := it1.form
            obtain ⟨af, rfl, nf, tf⟩ := it2.form
            obtain ⟨aq, rfl, nq, tq⟩ := it3.form
            have z1 := b1.size
            have z2 := b2.size
            have z3 := b3.size
            have hq1 := eqlNil26
            have hq2 := eqlNil22
            have TI : Hid (0 < n2 → ai = some ⟨w.heap.size, 0, none⟩ ∧ Tab w3 w.heap.size n2 n2 K T) := fun h => ⟨(ti h).1, ((ti h).2.below b2 (ti h).2.lt).below b3 (by have := (ti h).2.lt; omega)⟩
            have TF : Hid (0 < n2 → af = some ⟨w1.heap.size, 0, none⟩ ∧ Tab w3 w1.heap.size n2 n2 K T) := fun h => ⟨(tf h).1, (tf h).2.below b3 (tf h).2.lt⟩
            have TQ : Hid (0 < n2 → aq = some ⟨w2.heap.size, 0, none⟩ ∧ Tab w3 w2.heap.size n2 n2 K T) := tq
            have b123 : Below w.heap.size w w3 := b1.trans ((b2.mono z1).trans (b3.mono (by omega)))
            have HK2 : Hid (Strs w3 ao g o n2 K) := HK.out.below b123 HK.out.lt
            have HT2 : Hid (Strs w3 ao2 g2 o2 n2 T) := HT.out.below b123 HT.out.lt
            have gK : 0 < n2 → g < w.heap.size := HK.out.lt
            have gT : 0 < n2 → g2 < w.heap.size := HT.out.lt
            have BB : Hid (Below w.heap.size w w3) := b123
            have hbi : 0 < n2 → w.heap.size < w1.heap.size ∧ w1.heap.size < w2.heap.size := fun h => ⟨(ti h).2.lt, (tf h).2.lt⟩
            clear it1 it2 it3 b1 b2 b3 b123 ni nf ti tf tq HK HT
            obtain ⟨Bi, hBi⟩ : ∃ b, b = w.heap.size := ⟨_, rfl⟩
            obtain ⟨Bf, hBf⟩ : ∃ b, b = w1.heap.size := ⟨_, rfl⟩
            obtain ⟨Bo, hBo⟩ : ∃ b, b = w2.heap.size := ⟨_, rfl⟩
            rw [← hBi] at TI gK gT hbi
            rw [← hBf] at TF hbi
            rw [← hBo] at TQ hbi
            have HBi : Hid (Bi = w.heap.size) := hBi
            have hBio : Bi ≤ Bo := by omega
            clear hBi hBf hBo z1 z2 z3
            go_wp2_with fail
            go_loopw [8] (fun vi wr => ∃ k m : Nat, k ≤ n2 ∧ vi = .int .i64 k ∧ wr = w3.drewN m) (fun vi _ => n2 - (intOf vi).toNat)
            case atStart => exact ⟨0, 0, by omega, rfl, rfl⟩
            case round =>
              obtain ⟨k, m, hk, rfl, rfl⟩ := hrel
              by_cases hlt : k < n2
              · obtain ⟨rfl, tq⟩ := TQ.out (by omega)
                obtain rfl := HK2.out.addr (by omega)
                obtain rfl := HT2.out.addr (by omega)
                have d1 := tq.cell0 k hlt
                have d2 := tq.cell1 k hlt
                have d3 := HK2.out.cell k hlt
                have d4 := HT2.out.cell k hlt
                have hkn : (k : Int) < (n2 : Int) := by omega
                clear tq
                go_wp2_with fail
                go_quiet (fail)
                go_wp2_with fail
                go_roundw
                case rel => first | exact ⟨k + 1, _, by omega, by go_num, rfl⟩ | ((repeat apply Exists.intro); exact ⟨⟨k + 1, _, by omega, by go_num, rfl⟩, rfl⟩)
                case measure => simp [intOf]; omega
              · have R0 : Hid (0 < n2 → Rest (w3.drewN m) Bo n2 0 K T) := fun h => (TQ.out h).2.rest.carry rfl
                go_wp2_with fail
                go_loopw [9] (fun vi wr => ∃ j : Nat, j ≤ n2 ∧ vi = .int .i64 j ∧ (0 < n2 → Rest wr Bo n2 j K T) ∧ Below Bo w3 wr) (fun vi _ => n2 - (intOf vi).toNat)
                case atStart => exact ⟨0, by omega, rfl, R0, below_drewN (Below.refl _ _) m⟩
                case round =>
                  obtain ⟨j, hj, rfl, hre, hbe⟩ := hrel
                  have HRE : Hid (0 < n2 → Rest wr Bo n2 j K T) := hre
                  have HBE : Hid (Below Bo w3 wr) := hbe
                  clear hre hbe R0
                  by_cases hjn : j < n2
                  · obtain ⟨rfl, _⟩ := TQ.out (by omega)
                    have rr := HRE.out (by omega)
                    obtain ⟨e1, e2, e3, e4⟩ := rr.at hjn
                    have k1 := HSK.out j hjn
                    have hjn' : (j : Int) < (n2 : Int) := by omega
                    have RS : Hid (∀ u1, Rest (wr.setCell ⟨Bo, j * 2, none⟩ u1) Bo n2 (j + 1) K T) := fun u1 => rr.set (j * 2) (by omega) u1
                    clear rr
                    go_wp2_with fail
                    go_roundw
                    case rel => exact ⟨j + 1, by omega, by go_num, fun _ => RS.out _, HBE.out.setCell (Nat.le_refl _) _⟩
                    case measure => simp [intOf]; omega
                  · go_wp2_with fail
                    go_loopw [10] (fun vi wy => ∃ t m : Nat, t ≤ n2 ∧ vi = .int .i64 t ∧ wy = wr.drewN m) (fun vi _ => n2 - (intOf vi).toNat)
                    case atStart => exact ⟨0, 0, by omega, rfl, rfl⟩
                    case round =>
                      obtain ⟨t, m2, ht, rfl, rfl⟩ := hrel
                      by_cases htn : t < n2
                      · obtain ⟨rfl, ti⟩ := TI.out (by omega)
                        obtain ⟨rfl, tf⟩ := TF.out (by omega)
                        obtain rfl := HK2.out.addr (by omega)
                        have hb1 := hbi (by omega)
                        have d1 := (ti.below HBE.out (by omega)).cell0 t htn
                        have d2 := (tf.below HBE.out (by omega)).cell0 t htn
                        have d3 := (HK2.out.below HBE.out (fun h => by have := gK h; omega)).cell t htn
                        have htn' : (t : Int) < (n2 : Int) := by omega
                        clear ti tf
                        go_wp2_with fail
                        go_quiet (fail)
                        go_wp2_with fail
                        go_roundw
                        case rel => first | exact ⟨t + 1, _, by omega, by go_num, rfl⟩ | ((repeat apply Exists.intro); exact ⟨⟨t + 1, _, by omega, by go_num, rfl⟩, rfl⟩)
                        case measure => simp [intOf]; omega
                      · go_wp2_with fail
                        go_ret
                        exact ⟨rfl, below_drewN (BB.out.trans (HBE.out.mono (by have := HBi.out; omega))) m2⟩
          · go_wp2_with fail
            go_ret
            exact ⟨rfl, Below.refl _ _⟩
        · go_wp2_with fail
          go_ret
          exact ⟨rfl, Below.refl _ _⟩
    · go_enter Try.func4, Try.ntmps4
      go_wp2_with fail
      refine hz.mono ?_
      rintro e wz ⟨⟨bz, rfl, hsm⟩, hwz⟩; subst wz
      clear hz
      cases bz with
      | false =>
        go_wp2_with fail
        go_ret
        exact ⟨rfl, Below.refl _ _⟩
      | true =>
        clear hsm
        go_wp2_with fail
        go_ret
        exact ⟨rfl, Below.refl _ _⟩
  · go_enter Try.func4, Try.ntmps4
    go_wp2_with fail
    refine hz.mono ?_
    rintro e wz ⟨⟨bz, rfl, hsm⟩, hwz⟩; subst wz
    clear hz
    cases bz with
    | false =>
      go_wp2_with fail
      go_ret
      exact ⟨rfl, Below.refl _ _⟩
    | true =>
      clear hsm
      go_wp2_with fail
      go_ret
      exact ⟨rfl, Below.refl _ _⟩

#print axioms lawB
end Go.Proofs.Qxb6604414a
