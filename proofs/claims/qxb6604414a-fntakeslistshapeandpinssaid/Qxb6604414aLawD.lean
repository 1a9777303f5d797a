/-
  SEAT b6604414a. THE WALK OF FnTakesListShapeAndPins (6).
-/
import Derived.Test.Qxb6604414aLawC
import Derived.Test.Qxb6604414aPins2
namespace Go.Proofs.Qxb6604414a
open Go.RowKit
set_option linter.unusedVariables false

set_option maxHeartbeats 1000000 in
set_option maxRecDepth 100000 in
theorem zb21_any (ao : Option Addr) (g o n c : Nat) (K : Nat → ByteArray) (v1 v2 : Value) (x : ByteArray) (w : World) (hK : Strs w ao g o n K) :
    Calls Try.prog 21 #[.slice ao n c, v1, v2, .string x] w fun e w' => BoolThen e True ∧ w' = w := by
  have HK : Hid (Strs w ao g o n K) := hK
  clear hK
  by_cases c1 : n ≤ 1048576
  · go_enter Try.func21, Try.ntmps21
    go_wp2
    go_loop [9, 10] (fun vz vi => ∃ k z : Nat, k ≤ n ∧ vi = .int .i64 k ∧ vz = .int .i64 z ∧ z ≤ 1048576) (fun _ vi => n - (intOf vi).toNat)
    case atStart => exact ⟨0, n, by omega, rfl, rfl, by omega⟩
    case round =>
      obtain ⟨k, z, hk, rfl, rfl, hz⟩ := hrel
      by_cases hlt : k < n
      · have hl := HK.out
        obtain rfl := hl.addr (by omega)
        have hc := hl.cell k hlt
        clear hl
        by_cases d1 : (K k).size ≤ 1048576
        · by_cases d2 : z + (K k).size ≤ 1048576
          · go_wp2
            go_round
            case rel => exact ⟨k + 1, z + (K k).size, by omega, by go_num, by go_num, by omega⟩
            case measure => simp [intOf]; omega
          · go_wp2
            go_ret
            exact ⟨BoolThen.no _, rfl⟩
        · go_wp2
          go_ret
          exact ⟨BoolThen.no _, rfl⟩
      · by_cases d1 : x.size ≤ 1048576
        · by_cases d2 : z + x.size ≤ 1048576
          · go_wp2
            go_ret
            exact ⟨BoolThen.yes trivial, rfl⟩
          · go_wp2
            go_ret
            exact ⟨BoolThen.no _, rfl⟩
        · go_wp2
          go_ret
          exact ⟨BoolThen.no _, rfl⟩
  · go_enter Try.func21, Try.ntmps21
    go_wp2
    go_ret
    exact ⟨BoolThen.no _, rfl⟩

/-- The two kinds of names. -/
theorem kindsD (hj hr : Bool) (x : ByteArray) : ∃ sp : Bool, Hid (∀ w, Calls Try.prog 24 #[.string x] w fun e w' => e = .returned (.bool sp) ∧ w' = w) ∧
    ((sp = true ∧ Hid (∀ h h', takesB hj hr x h = takesB hj hr x h')) ∨ (sp = false ∧ Hid (∀ b1 b2 h, takesB b1 b2 x h = h))) := by
  cases hP : isP x with
  | true => exact ⟨true, fun w => by have := shared_any x w; rwa [hP, Bool.true_or, Bool.true_or] at this, .inl ⟨rfl, fun h h' => by rw [takesB_P hP, takesB_P hP]⟩⟩
  | false =>
    cases hX : isX x with
    | true => exact ⟨true, fun w => by have := shared_any x w; rwa [hP, hX, Bool.or_true, Bool.true_or] at this, .inl ⟨rfl, fun h h' => by rw [takesB_X hX, takesB_X hX]⟩⟩
    | false =>
      cases hT : isT x with
      | true => exact ⟨true, fun w => by have := shared_any x w; rwa [hT, Bool.or_true] at this, .inl ⟨rfl, fun h h' => by rw [takesB_T hP hX hT, takesB_T hP hX hT]⟩⟩
      | false => exact ⟨false, fun w => by have := shared_any x w; rwa [hP, hX, hT] at this, .inr ⟨rfl, fun b1 b2 h => takesB_O hP hX hT⟩⟩

set_option maxHeartbeats 4000000 in
set_option maxRecDepth 100000 in
theorem lawD_some (ad : Addr) (g o n c : Nat) (S : Nat → ByteArray) (hj hr : Bool) (x : ByteArray) (w : World) (hS : Strs w (some ad) g o n S) (hn : n ≤ 9223372036854775807) (hSs : ∀ j, j < n → (S j).size ≤ 9223372036854775807) (hx : x.size ≤ 9223372036854775807) :
    Calls Try.prog 6 #[.slice (some ad) n c, .bool hj, .bool hr, .string x] w fun e w' => e = .returned (.bool true) ∧ Below w.heap.size w w' := by
  have HS : Hid (Strs w (some ad) g o n S) := hS
  have hz := zb21_any (some ad) g o n c S (.bool hj) (.bool hr) x w hS
  have s1 := sb_any (some ad) g o n c S w hS hSs
  have hq := neqNil22
  obtain ⟨i0, hi, hz0, hz1, hz2⟩ := info_parts Try.info9
  clear hS hSs
  by_cases c1 : n ≤ 65536
  · go_enter Try.func6, Try.ntmps6
    go_wp2_with fail
    refine hz.mono ?_
    rintro e wz ⟨⟨bz, rfl, _⟩, hwz⟩; subst wz
    clear hz
    cases bz with
    | false =>
      go_wp2_with fail
      go_ret
      exact ⟨rfl, Below.refl _ _⟩
    | true =>
      go_wp2_with fail
      refine s1.mono ?_
      rintro e wz ⟨r1, rfl, hr1, hwz⟩; subst wz
      clear s1
      go_wp2_with fail
      refine (add_any r1 x.size w (by omega) hx).mono ?_
      rintro e wz ⟨r3, rfl, hr3, hwz⟩; subst wz
      by_cases c4 : r3 ≤ 1048576
      · go_wp2_with (at_make; refine wpList_make_full _ rfl _ _ 22 rfl w.heap.size 9 i0 (.string ⟨#[]⟩) 1 Try.underlying22 hi hz0 hz1 _ _ _ _ n rfl rfl rfl rfl (by rw [hz2]; omega) (by unfold maxLen; omega) (Nat.le_refl _) ?_)
        intro w1 hown1 hgrow1
        obtain ⟨B, hB⟩ : ∃ b, b = w.heap.size := ⟨_, rfl⟩
        rw [← hB] at hown1 ⊢
        have HB : Hid (B = w.heap.size) := hB
        obtain ⟨cur, hcur, hcl⟩ : ∃ cur : List Value, w1.heap[B]? = some (.cells cur.toArray 9 (0, 0)) ∧ cur.length = n := by
          obtain ⟨cur, h1, h2, _⟩ := SRow.made S hown1
          exact ⟨cur.toList, by simpa using h1, by simpa using h2⟩
        have hbel1 : Below B w w1 := (Below.refl B w).grown hgrow1 (by omega) (fun k hk => by simp at hk)
        have hsrc : 0 < (cellsOf n S).length → ((some ⟨B, 0, none⟩ : Option Addr) = some ⟨B, 0, none⟩ ∧ ∃ a, some ad = some a ∧ ∀ j v, (cellsOf n S)[j]? = some v → w1.cell? (a.add j) = some v) := by
          intro h
          refine ⟨rfl, ad, rfl, fun j v hv => ?_⟩
          have hj : j < n := by have := (List.getElem?_eq_some_iff.1 hv).1; rwa [cellsOf_length] at this
          obtain rfl := Option.some.inj (HS.out.addr (by omega))
          rw [Addr.add_lit, hbel1.cell (p := ⟨g, o + j, none⟩) (by have := HS.out.lt (by omega); show g < B; omega), HS.out.cell j hj, ← hv, cellsOf_get n S j hj]
        have HSRC := hsrc
        have HCUR : Hid (w1.heap[B]? = some (.cells cur.toArray 9 (0, 0))) := hcur
        have HSRC : Hid (0 < (cellsOf n S).length → ((some ⟨B, 0, none⟩ : Option Addr) = some ⟨B, 0, none⟩ ∧ ∃ a, some ad = some a ∧ ∀ j v, (cellsOf n S)[j]? = some v → w1.cell? (a.add j) = some v)) := hsrc
        have HCL : Hid (cur.length = n) := hcl
        clear hsrc hcur hcl hown1 hgrow1 hB
        go_wp2_with (refine wpList_copy_splice rfl (.tmp 31) (.tmp 32) 22 22 rfl 9 Try.underlying22 (by kernel_rfl) _ _ _ _ _ _ rfl rfl B 0 cur 9 HCUR.out (cellsOf n S) (by rw [cellsOf_length]; exact (Nat.min_self n).symm) HSRC.out (by rw [cellsOf_length, HCL.out]; omega) (cellsOf_one n S) B w hbel1 (Nat.le_refl _) ?_)
        intro w2 HG2 hB2
        have HR : Hid (SRow w2 B n n S) := splice_srow HCL.out HG2.out
        have HS2 : Hid (Strs w2 (some ⟨B, 0, none⟩) B 0 n S) := HR.out.strs
        clear HG2 HSRC HCUR HCL hbel1
        obtain ⟨sp, HSH, AA⟩ := kindsD hj hr x
        have hB2' : Below w.heap.size w w2 := by rw [← HB.out]; exact hB2
        go_wp2_with fail
        have ZZ : w.heap.size ≤ w2.heap.size := (hB2').size
        obtain ⟨cb, hcb⟩ : ∃ cb, cb = takesB hj hr x (hasB S x n) := ⟨_, rfl⟩
        rcases AA with ⟨rfl, A⟩ | ⟨rfl, A⟩
        · have t1 := ztakes_any (some ⟨B, 0, none⟩) B 0 n n S hj hr x w2 HS2.out (by omega)
          have HCB : Hid (takesB hj hr x (hasB S x n) = cb) := hcb.symm
          rw [HCB.out] at t1
          clear hcb
          go_wp2_with fail
          refine t1.mono ?_
          rintro e w3 ⟨rfl, b3⟩
          clear t1
          have z3 := b3.size
          have HS3 : Hid (Strs w3 (some ⟨B, 0, none⟩) B 0 n S) := HS2.out.below b3 HS2.out.lt
          have BE3 : Hid (Below w.heap.size w w3) := (hB2').trans (b3.mono ZZ)
          clear b3
          go_wp2_with fail
          refine (rev_aux _ (some ⟨B, 0, none⟩) B 0 n n S w3 HS3 rfl c1).mono ?_
          rintro e w4 ⟨rfl, r4, b4⟩
          have z4 := b4.size
          have HS4 : Hid (Strs w4 (some ⟨B, 0, none⟩) B 0 n S) := HS3.out.below b4 HS3.out.lt
          have BE4 : Hid (Below w.heap.size w w4) := BE3.out.trans (b4.mono (by omega))
          have t4 := ztakes_any (some ⟨w3.heap.size, 0, none⟩) w3.heap.size 0 (n) (n) (revS n S) hj hr x w4 r4.strs (by omega)
          rw [revS_has, HCB.out] at t4
          clear r4 b4 HS3 BE3
          go_wp2_with fail
          refine t4.mono ?_
          rintro e w5 ⟨rfl, b5⟩
          clear t4
          have z5 := b5.size
          have HS5 : Hid (Strs w5 (some ⟨B, 0, none⟩) B 0 n S) := HS4.out.below b5 HS4.out.lt
          have BE5 : Hid (Below w.heap.size w w5) := BE4.out.trans (b5.mono (by omega))
          clear b5 HS4 BE4
          go_wp2_with fail
          refine (tw_aux _ (some ⟨B, 0, none⟩) B 0 n n S w5 HS5 rfl c1).mono ?_
          rintro e w6 ⟨rfl, r6, b6⟩
          have z6 := b6.size
          have HS6 : Hid (Strs w6 (some ⟨B, 0, none⟩) B 0 n S) := HS5.out.below b6 HS5.out.lt
          have BE6 : Hid (Below w.heap.size w w6) := BE5.out.trans (b6.mono (by omega))
          have t6 := ztakes_any (some ⟨w5.heap.size, 0, none⟩) w5.heap.size 0 (2 * n) (2 * n) (twS n S) hj hr x w6 r6.strs (by omega)
          rw [twS_has, HCB.out] at t6
          clear r6 b6 HS5 BE5
          go_wp2_with fail
          refine t6.mono ?_
          rintro e w7 ⟨rfl, b7⟩
          clear t6
          have z7 := b7.size
          have HS7 : Hid (Strs w7 (some ⟨B, 0, none⟩) B 0 n S) := HS6.out.below b7 HS6.out.lt
          have BE7 : Hid (Below w.heap.size w w7) := BE6.out.trans (b7.mono (by omega))
          clear b7 HS6 BE6
          go_wp2_with fail
          refine (HSH.out _).mono ?_
          rintro e wq ⟨rfl, hwq⟩; subst wq
          have t8 := ztakes_any none 0 0 0 0 S0 hj hr x w7 (strs0 _) (by omega)
          rw [A.out _ (hasB S x n), HCB.out] at t8
          go_wp2_with fail
          refine t8.mono ?_
          rintro e w8 ⟨rfl, b8⟩
          clear t8
          have z8 := b8.size
          have HS8 : Hid (Strs w8 (some ⟨B, 0, none⟩) B 0 n S) := HS7.out.below b8 HS7.out.lt
          have BE8 : Hid (Below w.heap.size w w8) := BE7.out.trans (b8.mono (by omega))
          clear b8 HS7 BE7
          go_wp2_with fail
          refine (all_aux _ (some ⟨B, 0, none⟩) B 0 n n S w8 HS8 rfl c1).mono ?_
          rintro e w9 ⟨rfl, r9, b9⟩
          have z9 := b9.size
          have HS9 : Hid (Strs w9 (some ⟨B, 0, none⟩) B 0 n S) := HS8.out.below b9 HS8.out.lt
          have BE9 : Hid (Below w.heap.size w w9) := BE8.out.trans (b9.mono (by omega))
          have t9 := ztakes_any (some ⟨w8.heap.size, 0, none⟩) w8.heap.size 0 (n + 13) (n + 13) (allS n S) hj hr x w9 r9.strs (by omega)
          rw [A.out _ (hasB S x n), HCB.out] at t9
          clear r9 b9 HS8 BE8
          go_wp2_with fail
          refine t9.mono ?_
          rintro e w10 ⟨rfl, b10⟩
          clear t9
          have z10 := b10.size
          have HS10 : Hid (Strs w10 (some ⟨B, 0, none⟩) B 0 n S) := HS9.out.below b10 HS9.out.lt
          have BE10 : Hid (Below w.heap.size w w10) := BE9.out.trans (b10.mono (by omega))
          clear b10 HS9 BE9
          go_wp2_with fail
          refine (pins_aux _ w10 rfl).mono ?_
          rintro e wl ⟨rfl, bl⟩
          have BEL : Hid (Below w.heap.size w wl) := BE10.out.trans (bl.mono (by omega))
          clear bl
          go_wp2_with fail
          go_ret
          exact ⟨rfl, BEL.out⟩
        · have t1 := ztakes_any (some ⟨B, 0, none⟩) B 0 n n S hj hr x w2 HS2.out (by omega)
          have HCB : Hid (takesB hj hr x (hasB S x n) = cb) := hcb.symm
          rw [HCB.out] at t1
          clear hcb
          go_wp2_with fail
          refine t1.mono ?_
          rintro e w3 ⟨rfl, b3⟩
          clear t1
          have z3 := b3.size
          have HS3 : Hid (Strs w3 (some ⟨B, 0, none⟩) B 0 n S) := HS2.out.below b3 HS2.out.lt
          have BE3 : Hid (Below w.heap.size w w3) := (hB2').trans (b3.mono ZZ)
          clear b3
          go_wp2_with fail
          refine (rev_aux _ (some ⟨B, 0, none⟩) B 0 n n S w3 HS3 rfl c1).mono ?_
          rintro e w4 ⟨rfl, r4, b4⟩
          have z4 := b4.size
          have HS4 : Hid (Strs w4 (some ⟨B, 0, none⟩) B 0 n S) := HS3.out.below b4 HS3.out.lt
          have BE4 : Hid (Below w.heap.size w w4) := BE3.out.trans (b4.mono (by omega))
          have t4 := ztakes_any (some ⟨w3.heap.size, 0, none⟩) w3.heap.size 0 (n) (n) (revS n S) hj hr x w4 r4.strs (by omega)
          rw [revS_has, HCB.out] at t4
          clear r4 b4 HS3 BE3
          go_wp2_with fail
          refine t4.mono ?_
          rintro e w5 ⟨rfl, b5⟩
          clear t4
          have z5 := b5.size
          have HS5 : Hid (Strs w5 (some ⟨B, 0, none⟩) B 0 n S) := HS4.out.below b5 HS4.out.lt
          have BE5 : Hid (Below w.heap.size w w5) := BE4.out.trans (b5.mono (by omega))
          clear b5 HS4 BE4
          go_wp2_with fail
          refine (tw_aux _ (some ⟨B, 0, none⟩) B 0 n n S w5 HS5 rfl c1).mono ?_
          rintro e w6 ⟨rfl, r6, b6⟩
          have z6 := b6.size
          have HS6 : Hid (Strs w6 (some ⟨B, 0, none⟩) B 0 n S) := HS5.out.below b6 HS5.out.lt
          have BE6 : Hid (Below w.heap.size w w6) := BE5.out.trans (b6.mono (by omega))
          have t6 := ztakes_any (some ⟨w5.heap.size, 0, none⟩) w5.heap.size 0 (2 * n) (2 * n) (twS n S) hj hr x w6 r6.strs (by omega)
          rw [twS_has, HCB.out] at t6
          clear r6 b6 HS5 BE5
          go_wp2_with fail
          refine t6.mono ?_
          rintro e w7 ⟨rfl, b7⟩
          clear t6
          have z7 := b7.size
          have HS7 : Hid (Strs w7 (some ⟨B, 0, none⟩) B 0 n S) := HS6.out.below b7 HS6.out.lt
          have BE7 : Hid (Below w.heap.size w w7) := BE6.out.trans (b7.mono (by omega))
          clear b7 HS6 BE6
          go_wp2_with fail
          refine (HSH.out _).mono ?_
          rintro e wq ⟨rfl, hwq⟩; subst wq
          have HO : Hid (hasB S x n = cb) := (A.out hj hr _).symm.trans HCB.out
          have t8 := ztakes_any (some ⟨B, 0, none⟩) B 0 n n S false false x w7 HS7.out (by omega)
          rw [A.out, HO.out] at t8
          go_wp2_with fail
          refine t8.mono ?_
          rintro e w8 ⟨rfl, b8⟩
          clear t8
          have z8 := b8.size
          have HS8 : Hid (Strs w8 (some ⟨B, 0, none⟩) B 0 n S) := HS7.out.below b8 HS7.out.lt
          have BE8 : Hid (Below w.heap.size w w8) := BE7.out.trans (b8.mono (by omega))
          clear b8 HS7 BE7
          have t9 := ztakes_any (some ⟨B, 0, none⟩) B 0 n n S true true x w8 HS8.out (by omega)
          rw [A.out, HO.out] at t9
          go_wp2_with fail
          refine t9.mono ?_
          rintro e w9 ⟨rfl, b9⟩
          clear t9
          have z9 := b9.size
          have HS9 : Hid (Strs w9 (some ⟨B, 0, none⟩) B 0 n S) := HS8.out.below b9 HS8.out.lt
          have BE9 : Hid (Below w.heap.size w w9) := BE8.out.trans (b9.mono (by omega))
          clear b9 HS8 BE8
          go_wp2_with fail
          refine (pins_aux _ w9 rfl).mono ?_
          rintro e wl ⟨rfl, bl⟩
          have BEL : Hid (Below w.heap.size w wl) := BE9.out.trans (bl.mono (by omega))
          clear bl
          go_wp2_with fail
          go_ret
          exact ⟨rfl, BEL.out⟩
      · go_wp2_with fail
        go_ret
        exact ⟨rfl, Below.refl _ _⟩
  · go_enter Try.func6, Try.ntmps6
    go_wp2_with fail
    refine hz.mono ?_
    rintro e wz ⟨⟨bz, rfl, _⟩, hwz⟩; subst wz
    clear hz
    cases bz with
    | false =>
      go_wp2_with fail
      go_ret
      exact ⟨rfl, Below.refl _ _⟩
    | true =>
      go_wp2_with fail
      go_ret
      exact ⟨rfl, Below.refl _ _⟩

set_option maxHeartbeats 4000000 in
set_option maxRecDepth 100000 in
theorem lawD_none (g o n c : Nat) (S : Nat → ByteArray) (hj hr : Bool) (x : ByteArray) (w : World) (hS : Strs w none g o n S) (hn : n ≤ 9223372036854775807) (hSs : ∀ j, j < n → (S j).size ≤ 9223372036854775807) (hx : x.size ≤ 9223372036854775807) :
    Calls Try.prog 6 #[.slice none n c, .bool hj, .bool hr, .string x] w fun e w' => e = .returned (.bool true) ∧ Below w.heap.size w w' := by
  have HS : Hid (Strs w none g o n S) := hS
  have hz := zb21_any none g o n c S (.bool hj) (.bool hr) x w hS
  have s1 := sb_any none g o n c S w hS hSs
  have hq := neqNil22
  clear hS hSs
  by_cases c1 : n ≤ 65536
  · go_enter Try.func6, Try.ntmps6
    go_wp2_with fail
    refine hz.mono ?_
    rintro e wz ⟨⟨bz, rfl, _⟩, hwz⟩; subst wz
    clear hz
    cases bz with
    | false =>
      go_wp2_with fail
      go_ret
      exact ⟨rfl, Below.refl _ _⟩
    | true =>
      go_wp2_with fail
      refine s1.mono ?_
      rintro e wz ⟨r1, rfl, hr1, hwz⟩; subst wz
      clear s1
      go_wp2_with fail
      refine (add_any r1 x.size w (by omega) hx).mono ?_
      rintro e wz ⟨r3, rfl, hr3, hwz⟩; subst wz
      by_cases c4 : r3 ≤ 1048576
      · obtain ⟨sp, HSH, AA⟩ := kindsD hj hr x
        go_wp2_with fail
        have ZZ : w.heap.size ≤ w.heap.size := (Below.refl w.heap.size w).size
        obtain ⟨cb, hcb⟩ : ∃ cb, cb = takesB hj hr x (hasB S x n) := ⟨_, rfl⟩
        rcases AA with ⟨rfl, A⟩ | ⟨rfl, A⟩
        · have t1 := ztakes_any none g o n c S hj hr x w HS.out (by omega)
          have HCB : Hid (takesB hj hr x (hasB S x n) = cb) := hcb.symm
          rw [HCB.out] at t1
          clear hcb
          go_wp2_with fail
          refine t1.mono ?_
          rintro e w3 ⟨rfl, b3⟩
          clear t1
          have z3 := b3.size
          have HS3 : Hid (Strs w3 none g o n S) := HS.out.below b3 HS.out.lt
          have BE3 : Hid (Below w.heap.size w w3) := (Below.refl w.heap.size w).trans (b3.mono ZZ)
          clear b3
          go_wp2_with fail
          refine (rev_aux _ none g o n c S w3 HS3 rfl c1).mono ?_
          rintro e w4 ⟨rfl, r4, b4⟩
          have z4 := b4.size
          have HS4 : Hid (Strs w4 none g o n S) := HS3.out.below b4 HS3.out.lt
          have BE4 : Hid (Below w.heap.size w w4) := BE3.out.trans (b4.mono (by omega))
          have t4 := ztakes_any (some ⟨w3.heap.size, 0, none⟩) w3.heap.size 0 (n) (n) (revS n S) hj hr x w4 r4.strs (by omega)
          rw [revS_has, HCB.out] at t4
          clear r4 b4 HS3 BE3
          go_wp2_with fail
          refine t4.mono ?_
          rintro e w5 ⟨rfl, b5⟩
          clear t4
          have z5 := b5.size
          have HS5 : Hid (Strs w5 none g o n S) := HS4.out.below b5 HS4.out.lt
          have BE5 : Hid (Below w.heap.size w w5) := BE4.out.trans (b5.mono (by omega))
          clear b5 HS4 BE4
          go_wp2_with fail
          refine (tw_aux _ none g o n c S w5 HS5 rfl c1).mono ?_
          rintro e w6 ⟨rfl, r6, b6⟩
          have z6 := b6.size
          have HS6 : Hid (Strs w6 none g o n S) := HS5.out.below b6 HS5.out.lt
          have BE6 : Hid (Below w.heap.size w w6) := BE5.out.trans (b6.mono (by omega))
          have t6 := ztakes_any (some ⟨w5.heap.size, 0, none⟩) w5.heap.size 0 (2 * n) (2 * n) (twS n S) hj hr x w6 r6.strs (by omega)
          rw [twS_has, HCB.out] at t6
          clear r6 b6 HS5 BE5
          go_wp2_with fail
          refine t6.mono ?_
          rintro e w7 ⟨rfl, b7⟩
          clear t6
          have z7 := b7.size
          have HS7 : Hid (Strs w7 none g o n S) := HS6.out.below b7 HS6.out.lt
          have BE7 : Hid (Below w.heap.size w w7) := BE6.out.trans (b7.mono (by omega))
          clear b7 HS6 BE6
          go_wp2_with fail
          refine (HSH.out _).mono ?_
          rintro e wq ⟨rfl, hwq⟩; subst wq
          have t8 := ztakes_any none 0 0 0 0 S0 hj hr x w7 (strs0 _) (by omega)
          rw [A.out _ (hasB S x n), HCB.out] at t8
          go_wp2_with fail
          refine t8.mono ?_
          rintro e w8 ⟨rfl, b8⟩
          clear t8
          have z8 := b8.size
          have HS8 : Hid (Strs w8 none g o n S) := HS7.out.below b8 HS7.out.lt
          have BE8 : Hid (Below w.heap.size w w8) := BE7.out.trans (b8.mono (by omega))
          clear b8 HS7 BE7
          go_wp2_with fail
          refine (all_aux _ none g o n c S w8 HS8 rfl c1).mono ?_
          rintro e w9 ⟨rfl, r9, b9⟩
          have z9 := b9.size
          have HS9 : Hid (Strs w9 none g o n S) := HS8.out.below b9 HS8.out.lt
          have BE9 : Hid (Below w.heap.size w w9) := BE8.out.trans (b9.mono (by omega))
          have t9 := ztakes_any (some ⟨w8.heap.size, 0, none⟩) w8.heap.size 0 (n + 13) (n + 13) (allS n S) hj hr x w9 r9.strs (by omega)
          rw [A.out _ (hasB S x n), HCB.out] at t9
          clear r9 b9 HS8 BE8
          go_wp2_with fail
          refine t9.mono ?_
          rintro e w10 ⟨rfl, b10⟩
          clear t9
          have z10 := b10.size
          have HS10 : Hid (Strs w10 none g o n S) := HS9.out.below b10 HS9.out.lt
          have BE10 : Hid (Below w.heap.size w w10) := BE9.out.trans (b10.mono (by omega))
          clear b10 HS9 BE9
          go_wp2_with fail
          refine (pins_aux _ w10 rfl).mono ?_
          rintro e wl ⟨rfl, bl⟩
          have BEL : Hid (Below w.heap.size w wl) := BE10.out.trans (bl.mono (by omega))
          clear bl
          go_wp2_with fail
          go_ret
          exact ⟨rfl, BEL.out⟩
        · have t1 := ztakes_any none g o n c S hj hr x w HS.out (by omega)
          have HCB : Hid (takesB hj hr x (hasB S x n) = cb) := hcb.symm
          rw [HCB.out] at t1
          clear hcb
          go_wp2_with fail
          refine t1.mono ?_
          rintro e w3 ⟨rfl, b3⟩
          clear t1
          have z3 := b3.size
          have HS3 : Hid (Strs w3 none g o n S) := HS.out.below b3 HS.out.lt
          have BE3 : Hid (Below w.heap.size w w3) := (Below.refl w.heap.size w).trans (b3.mono ZZ)
          clear b3
          go_wp2_with fail
          refine (rev_aux _ none g o n c S w3 HS3 rfl c1).mono ?_
          rintro e w4 ⟨rfl, r4, b4⟩
          have z4 := b4.size
          have HS4 : Hid (Strs w4 none g o n S) := HS3.out.below b4 HS3.out.lt
          have BE4 : Hid (Below w.heap.size w w4) := BE3.out.trans (b4.mono (by omega))
          have t4 := ztakes_any (some ⟨w3.heap.size, 0, none⟩) w3.heap.size 0 (n) (n) (revS n S) hj hr x w4 r4.strs (by omega)
          rw [revS_has, HCB.out] at t4
          clear r4 b4 HS3 BE3
          go_wp2_with fail
          refine t4.mono ?_
          rintro e w5 ⟨rfl, b5⟩
          clear t4
          have z5 := b5.size
          have HS5 : Hid (Strs w5 none g o n S) := HS4.out.below b5 HS4.out.lt
          have BE5 : Hid (Below w.heap.size w w5) := BE4.out.trans (b5.mono (by omega))
          clear b5 HS4 BE4
          go_wp2_with fail
          refine (tw_aux _ none g o n c S w5 HS5 rfl c1).mono ?_
          rintro e w6 ⟨rfl, r6, b6⟩
          have z6 := b6.size
          have HS6 : Hid (Strs w6 none g o n S) := HS5.out.below b6 HS5.out.lt
          have BE6 : Hid (Below w.heap.size w w6) := BE5.out.trans (b6.mono (by omega))
          have t6 := ztakes_any (some ⟨w5.heap.size, 0, none⟩) w5.heap.size 0 (2 * n) (2 * n) (twS n S) hj hr x w6 r6.strs (by omega)
          rw [twS_has, HCB.out] at t6
          clear r6 b6 HS5 BE5
          go_wp2_with fail
          refine t6.mono ?_
          rintro e w7 ⟨rfl, b7⟩
          clear t6
          have z7 := b7.size
          have HS7 : Hid (Strs w7 none g o n S) := HS6.out.below b7 HS6.out.lt
          have BE7 : Hid (Below w.heap.size w w7) := BE6.out.trans (b7.mono (by omega))
          clear b7 HS6 BE6
          go_wp2_with fail
          refine (HSH.out _).mono ?_
          rintro e wq ⟨rfl, hwq⟩; subst wq
          have HO : Hid (hasB S x n = cb) := (A.out hj hr _).symm.trans HCB.out
          have t8 := ztakes_any none g o n c S false false x w7 HS7.out (by omega)
          rw [A.out, HO.out] at t8
          go_wp2_with fail
          refine t8.mono ?_
          rintro e w8 ⟨rfl, b8⟩
          clear t8
          have z8 := b8.size
          have HS8 : Hid (Strs w8 none g o n S) := HS7.out.below b8 HS7.out.lt
          have BE8 : Hid (Below w.heap.size w w8) := BE7.out.trans (b8.mono (by omega))
          clear b8 HS7 BE7
          have t9 := ztakes_any none g o n c S true true x w8 HS8.out (by omega)
          rw [A.out, HO.out] at t9
          go_wp2_with fail
          refine t9.mono ?_
          rintro e w9 ⟨rfl, b9⟩
          clear t9
          have z9 := b9.size
          have HS9 : Hid (Strs w9 none g o n S) := HS8.out.below b9 HS8.out.lt
          have BE9 : Hid (Below w.heap.size w w9) := BE8.out.trans (b9.mono (by omega))
          clear b9 HS8 BE8
          go_wp2_with fail
          refine (pins_aux _ w9 rfl).mono ?_
          rintro e wl ⟨rfl, bl⟩
          have BEL : Hid (Below w.heap.size w wl) := BE9.out.trans (bl.mono (by omega))
          clear bl
          go_wp2_with fail
          go_ret
          exact ⟨rfl, BEL.out⟩
      · go_wp2_with fail
        go_ret
        exact ⟨rfl, Below.refl _ _⟩
  · go_enter Try.func6, Try.ntmps6
    go_wp2_with fail
    refine hz.mono ?_
    rintro e wz ⟨⟨bz, rfl, _⟩, hwz⟩; subst wz
    clear hz
    cases bz with
    | false =>
      go_wp2_with fail
      go_ret
      exact ⟨rfl, Below.refl _ _⟩
    | true =>
      go_wp2_with fail
      go_ret
      exact ⟨rfl, Below.refl _ _⟩


theorem lawD (ao : Option Addr) (g o n c : Nat) (S : Nat → ByteArray) (hj hr : Bool) (x : ByteArray) (w : World) (hS : Strs w ao g o n S) (hn : n ≤ 9223372036854775807) (hSs : ∀ j, j < n → (S j).size ≤ 9223372036854775807) (hx : x.size ≤ 9223372036854775807) :
    Calls Try.prog 6 #[.slice ao n c, .bool hj, .bool hr, .string x] w fun e w' => e = .returned (.bool true) ∧ Below w.heap.size w w' := by
  cases ao with
  | none => exact lawD_none g o n c S hj hr x w hS hn hSs hx
  | some ad => exact lawD_some ad g o n c S hj hr x w hS hn hSs hx

#print axioms lawD
end Go.Proofs.Qxb6604414a
