/-
  SEAT b6604414a. THE WALK OF FnTakesAddRemoveName (5).
-/
import Derived.Test.Qxb6604414aMore
namespace Go.Proofs.Qxb6604414a
open Go.RowKit
set_option linter.unusedVariables false

theorem T_notP {x : ByteArray} (h : isT x = true) : isP x = false ∧ isX x = false := by
  unfold isT at h
  have e : x.toList = [116, 105, 109, 101, 76, 105, 109, 105, 116] := by simpa using h
  unfold isP isX
  rw [e]
  exact ⟨by decide, by decide⟩

/-- The two kinds of names: shared (the answer is a flag) and ordinary (the answer is whether it is listed). -/
theorem kinds (hj hr : Bool) (x : ByteArray) : ∃ sp fl : Bool, Hid (∀ w, Calls Try.prog 19 #[.string x, .bool hj, .bool hr] w fun e w' => e = .returned (.tuple #[.bool sp, .bool fl]) ∧ w' = w) ∧
    ((sp = true ∧ Hid (∀ h, takesB hj hr x h = fl)) ∨ (sp = false ∧ Hid (∀ h, takesB hj hr x h = h))) := by
  cases hT : isT x with
  | true =>
    obtain ⟨h1, h2⟩ := T_notP hT
    exact ⟨true, hj, fun w => flag_T hj hr x w hT, .inl ⟨rfl, fun h => takesB_T h1 h2 hT⟩⟩
  | false =>
    cases hP : isP x with
    | true => exact ⟨true, hr, fun w => flag_P hj hr x w hT hP, .inl ⟨rfl, fun h => takesB_P hP⟩⟩
    | false =>
      cases hX : isX x with
      | true => exact ⟨true, hr, fun w => flag_X hj hr x w hT hP hX, .inl ⟨rfl, fun h => takesB_X hX⟩⟩
      | false => exact ⟨false, false, fun w => flag_O hj hr x w hT hP hX, .inr ⟨rfl, fun h => takesB_O hP hX hT⟩⟩

/-- The cells of the first n strings. -/
def cellsOf (n : Nat) (S : Nat → ByteArray) : List Value := (List.range n).map fun j => .string (S j)
theorem cellsOf_length (n : Nat) (S : Nat → ByteArray) : (cellsOf n S).length = n := by simp [cellsOf]
theorem cellsOf_get (n : Nat) (S : Nat → ByteArray) (j : Nat) (hj : j < n) : (cellsOf n S)[j]? = some (.string (S j)) := by simp [cellsOf, hj]
theorem cellsOf_one (n : Nat) (S : Nat → ByteArray) : ∀ v ∈ cellsOf n S, v.oneCell' = true := by
  intro v hv
  obtain ⟨j, _, rfl⟩ := List.mem_map.1 hv
  rfl

theorem splice_srow {w : World} {B n : Nat} {cur : List Value} {S : Nat → ByteArray} (hl : cur.length = n) (h : w.heap[B]? = some (.cells (splice cur 0 (cellsOf n S)).toArray 9 (0, 0))) : SRow w B n n S := by
  have e : splice cur 0 (cellsOf n S) = cellsOf n S := by
    unfold splice
    rw [List.take_zero, List.nil_append, cellsOf_length, List.drop_eq_nil_of_le (by omega), List.append_nil]
  rw [e] at h
  exact ⟨_, h, by simp [cellsOf_length], fun j hj => by simpa using cellsOf_get n S j hj⟩

set_option maxHeartbeats 4000000 in
set_option maxRecDepth 100000 in
theorem lawC_some (ad : Addr) (g o n c : Nat) (S : Nat → ByteArray) (hj hr : Bool) (x : ByteArray) (w : World) (hS : Strs w (some ad) g o n S) (hn : n ≤ 9223372036854775807) (hSs : ∀ j, j < n → (S j).size ≤ 9223372036854775807) (hx : x.size ≤ 9223372036854775807) :
    Calls Try.prog 5 #[.slice (some ad) n c, .bool hj, .bool hr, .string x] w fun e w' => e = .returned (.bool true) ∧ Below w.heap.size w w' := by
  have HS : Hid (Strs w (some ad) g o n S) := hS
  have hz := zb15_any (some ad) g o n c S (.bool hj) (.bool hr) x w hS
  have s1 := sb_any (some ad) g o n c S w hS hSs
  have hq := neqNil22
  obtain ⟨i0, hi, hz0, hz1, hz2⟩ := info_parts Try.info9
  clear hS hSs
  by_cases c1 : n ≤ 65536
  · go_enter Try.func5, Try.ntmps5
    go_wp2_with fail
    refine hz.mono ?_
    rintro e wz ⟨⟨bz, rfl, _⟩, hwz⟩; subst wz
    clear hz
    cases bz with
    | false =>
      go_wp2_with fail
      go_ret
      exact ⟨rfl, Below.refl _ _⟩
    | true =>
      go_wp2_with fail
      refine s1.mono ?_
      rintro e wz ⟨r1, rfl, hr1, hwz⟩; subst wz
      clear s1
      go_wp2_with fail
      refine (add_any r1 x.size w (by omega) hx).mono ?_
      rintro e wz ⟨r3, rfl, hr3, hwz⟩; subst wz
      by_cases c4 : r3 ≤ 1048576
      · go_wp2_with (at_make; refine wpList_make_full _ rfl _ _ 22 rfl w.heap.size 9 i0 (.string ⟨#[]⟩) 1 Try.underlying22 hi hz0 hz1 _ _ _ _ n rfl rfl rfl rfl (by rw [hz2]; omega) (by unfold maxLen; omega) (Nat.le_refl _) ?_)
        intro w1 hown1 hgrow1
        obtain ⟨B, hB⟩ : ∃ b, b = w.heap.size := ⟨_, rfl⟩
        rw [← hB] at hown1 ⊢
        have HB : Hid (B = w.heap.size) := hB
        obtain ⟨cur, hcur, hcl⟩ : ∃ cur : List Value, w1.heap[B]? = some (.cells cur.toArray 9 (0, 0)) ∧ cur.length = n := by
          obtain ⟨cur, h1, h2, _⟩ := SRow.made S hown1
          exact ⟨cur.toList, by simpa using h1, by simpa using h2⟩
        have hbel1 : Below B w w1 := (Below.refl B w).grown hgrow1 (by omega) (fun k hk => by simp at hk)
        have hsrc : 0 < (cellsOf n S).length → ((some ⟨B, 0, none⟩ : Option Addr) = some ⟨B, 0, none⟩ ∧ ∃ a, some ad = some a ∧ ∀ j v, (cellsOf n S)[j]? = some v → w1.cell? (a.add j) = some v) := by
          intro h
          refine ⟨rfl, ad, rfl, fun j v hv => ?_⟩
          have hj : j < n := by have := (List.getElem?_eq_some_iff.1 hv).1; rwa [cellsOf_length] at this
          obtain rfl := Option.some.inj (HS.out.addr (by omega))
          rw [Addr.add_lit, hbel1.cell (p := ⟨g, o + j, none⟩) (by have := HS.out.lt (by omega); show g < B; omega), HS.out.cell j hj, ← hv, cellsOf_get n S j hj]
        have HSRC := hsrc
        have HCUR : Hid (w1.heap[B]? = some (.cells cur.toArray 9 (0, 0))) := hcur
        have HSRC : Hid (0 < (cellsOf n S).length → ((some ⟨B, 0, none⟩ : Option Addr) = some ⟨B, 0, none⟩ ∧ ∃ a, some ad = some a ∧ ∀ j v, (cellsOf n S)[j]? = some v → w1.cell? (a.add j) = some v)) := hsrc
        have HCL : Hid (cur.length = n) := hcl
        clear hsrc hcur hcl hown1 hgrow1 hB
        go_wp2_with (refine wpList_copy_splice rfl (.tmp 37) (.tmp 38) 22 22 rfl 9 Try.underlying22 (by kernel_rfl) _ _ _ _ _ _ rfl rfl B 0 cur 9 HCUR.out (cellsOf n S) (by rw [cellsOf_length]; exact (Nat.min_self n).symm) HSRC.out (by rw [cellsOf_length, HCL.out]; omega) (cellsOf_one n S) B w hbel1 (Nat.le_refl _) ?_)
        intro w2 HG2 hB2
        have HR : Hid (SRow w2 B n n S) := splice_srow HCL.out HG2.out
        have HS2 : Hid (Strs w2 (some ⟨B, 0, none⟩) B 0 n S) := HR.out.strs
        clear HG2 HSRC HCUR HCL hbel1
        obtain ⟨sp, fl, HF, AA⟩ := kinds hj hr x
        have hB2' : Below w.heap.size w w2 := by rw [← HB.out]; exact hB2
        go_wp2_with fail
        have ZZ : w.heap.size ≤ w2.heap.size := (hB2').size
        rcases AA with ⟨rfl, A⟩ | ⟨rfl, A⟩
        · refine (with_aux _ (some ⟨B, 0, none⟩) B 0 n n S x w2 HS2 rfl c1).mono ?_
          rintro e w3 ⟨rfl, r3w, b3⟩
          have z3 := b3.size
          have HS3 : Hid (Strs w3 (some ⟨B, 0, none⟩) B 0 n S) := HS2.out.below b3 HS2.out.lt
          have HW3 : Hid (Strs w3 (some ⟨w2.heap.size, 0, none⟩) w2.heap.size 0 (n + 1) (withS n S x)) := r3w.strs
          clear r3w
          go_wp2_with fail
          refine (without_aux _ (some ⟨B, 0, none⟩) B 0 n n S x w3 HS3 rfl c1).mono ?_
          rintro e w4 ⟨v4, L, rfl, o4, lk, hL, b4⟩
          obtain ⟨aw, gw, cw, rfl, sw⟩ := strs_own x o4
          have z4 := b4.size
          have HS4 : Hid (Strs w4 (some ⟨B, 0, none⟩) B 0 n S) := HS3.out.below b4 HS3.out.lt
          have HW4 : Hid (Strs w4 (some ⟨w2.heap.size, 0, none⟩) w2.heap.size 0 (n + 1) (withS n S x)) := HW3.out.below b4 HW3.out.lt
          have HV4 : Hid (Strs w4 aw gw 0 L.length (fun j => L.getD j x)) := sw
          have HLK : Hid (lacks L x) := lk
          clear o4 sw lk HS3 HW3
          have t1 := ztakes_any (some ⟨w2.heap.size, 0, none⟩) w2.heap.size 0 (n + 1) (n + 1) (withS n S x) hj hr x w4 HW4.out (by omega)
          rw [A.out] at t1
          go_wp2_with fail
          refine t1.mono ?_
          rintro e w5 ⟨rfl, b5⟩
          clear t1
          have z5 := b5.size
          have HS5 : Hid (Strs w5 (some ⟨B, 0, none⟩) B 0 n S) := HS4.out.below b5 HS4.out.lt
          have HV5 : Hid (Strs w5 aw gw 0 L.length (fun j => L.getD j x)) := HV4.out.below b5 HV4.out.lt
          have t2 := ztakes_any aw gw 0 L.length cw (fun j => L.getD j x) hj hr x w5 HV5.out (by omega)
          rw [A.out] at t2
          clear HS4 HW4 HV4 HV5
          go_wp2_with fail
          refine t2.mono ?_
          rintro e w6 ⟨rfl, b6⟩
          clear t2
          have z6 := b6.size
          have HS6 : Hid (Strs w6 (some ⟨B, 0, none⟩) B 0 n S) := HS5.out.below b6 HS5.out.lt
          have t3 := ztakes_any (some ⟨B, 0, none⟩) B 0 n n S hj hr x w6 HS6.out (by omega)
          rw [A.out] at t3
          go_wp2_with fail
          refine t3.mono ?_
          rintro e w7 ⟨rfl, b7⟩
          clear t3
          have z7 := b7.size
          have BEL : Hid (Below w.heap.size w w7) := (hB2').trans ((b3.mono ZZ).trans ((b4.mono (by omega)).trans ((b5.mono (by omega)).trans ((b6.mono (by omega)).trans (b7.mono (by omega))))))
          clear b3 b4 b5 b6 b7 z3 z4 z5 z6 z7 HS5 HS6
          go_wp2_with fail
          refine (HF.out _).mono ?_
          rintro e w8 ⟨rfl, hw8⟩; subst w8
          go_wp2_with fail
          go_ret
          exact ⟨by simp, BEL.out⟩
        · refine (with_aux _ (some ⟨B, 0, none⟩) B 0 n n S x w2 HS2 rfl c1).mono ?_
          rintro e w3 ⟨rfl, r3w, b3⟩
          have z3 := b3.size
          have HS3 : Hid (Strs w3 (some ⟨B, 0, none⟩) B 0 n S) := HS2.out.below b3 HS2.out.lt
          have HW3 : Hid (Strs w3 (some ⟨w2.heap.size, 0, none⟩) w2.heap.size 0 (n + 1) (withS n S x)) := r3w.strs
          clear r3w
          go_wp2_with fail
          refine (without_aux _ (some ⟨B, 0, none⟩) B 0 n n S x w3 HS3 rfl c1).mono ?_
          rintro e w4 ⟨v4, L, rfl, o4, lk, hL, b4⟩
          obtain ⟨aw, gw, cw, rfl, sw⟩ := strs_own x o4
          have z4 := b4.size
          have HS4 : Hid (Strs w4 (some ⟨B, 0, none⟩) B 0 n S) := HS3.out.below b4 HS3.out.lt
          have HW4 : Hid (Strs w4 (some ⟨w2.heap.size, 0, none⟩) w2.heap.size 0 (n + 1) (withS n S x)) := HW3.out.below b4 HW3.out.lt
          have HV4 : Hid (Strs w4 aw gw 0 L.length (fun j => L.getD j x)) := sw
          have HLK : Hid (lacks L x) := lk
          clear o4 sw lk HS3 HW3
          have t1 := ztakes_any (some ⟨w2.heap.size, 0, none⟩) w2.heap.size 0 (n + 1) (n + 1) (withS n S x) hj hr x w4 HW4.out (by omega)
          rw [A.out, withS_has] at t1
          go_wp2_with fail
          refine t1.mono ?_
          rintro e w5 ⟨rfl, b5⟩
          clear t1
          have z5 := b5.size
          have HS5 : Hid (Strs w5 (some ⟨B, 0, none⟩) B 0 n S) := HS4.out.below b5 HS4.out.lt
          have HV5 : Hid (Strs w5 aw gw 0 L.length (fun j => L.getD j x)) := HV4.out.below b5 HV4.out.lt
          have t2 := ztakes_any aw gw 0 L.length cw (fun j => L.getD j x) hj hr x w5 HV5.out (by omega)
          rw [A.out, lacks_has L x HLK.out L.length (Nat.le_refl _)] at t2
          clear HS4 HW4 HV4 HV5
          go_wp2_with fail
          refine t2.mono ?_
          rintro e w6 ⟨rfl, b6⟩
          clear t2
          have z6 := b6.size
          have HS6 : Hid (Strs w6 (some ⟨B, 0, none⟩) B 0 n S) := HS5.out.below b6 HS5.out.lt
          have t3 := ztakes_any (some ⟨B, 0, none⟩) B 0 n n S hj hr x w6 HS6.out (by omega)
          rw [A.out] at t3
          go_wp2_with fail
          refine t3.mono ?_
          rintro e w7 ⟨rfl, b7⟩
          clear t3
          have z7 := b7.size
          have BEL : Hid (Below w.heap.size w w7) := (hB2').trans ((b3.mono ZZ).trans ((b4.mono (by omega)).trans ((b5.mono (by omega)).trans ((b6.mono (by omega)).trans (b7.mono (by omega))))))
          have HS7 : Hid (Strs w7 (some ⟨B, 0, none⟩) B 0 n S) := HS6.out.below b7 HS6.out.lt
          clear b3 b4 b5 b6 b7 z3 z4 z5 z6 z7 HS5 HS6
          go_wp2_with fail
          refine (HF.out _).mono ?_
          rintro e w8 ⟨rfl, hw8⟩; subst w8
          go_wp2_with fail
          refine (listed_any (some ⟨B, 0, none⟩) B 0 n n S x w7 HS7.out (by omega)).mono ?_
          rintro e w8 ⟨rfl, hw8⟩; subst w8
          go_wp2_with fail
          go_ret
          exact ⟨by simp, BEL.out⟩
      · go_wp2_with fail
        go_ret
        exact ⟨rfl, Below.refl _ _⟩
  · go_enter Try.func5, Try.ntmps5
    go_wp2_with fail
    refine hz.mono ?_
    rintro e wz ⟨⟨bz, rfl, _⟩, hwz⟩; subst wz
    clear hz
    cases bz with
    | false =>
      go_wp2_with fail
      go_ret
      exact ⟨rfl, Below.refl _ _⟩
    | true =>
      go_wp2_with fail
      go_ret
      exact ⟨rfl, Below.refl _ _⟩

set_option maxHeartbeats 4000000 in
set_option maxRecDepth 100000 in
theorem lawC_none (g o n c : Nat) (S : Nat → ByteArray) (hj hr : Bool) (x : ByteArray) (w : World) (hS : Strs w none g o n S) (hn : n ≤ 9223372036854775807) (hSs : ∀ j, j < n → (S j).size ≤ 9223372036854775807) (hx : x.size ≤ 9223372036854775807) :
    Calls Try.prog 5 #[.slice none n c, .bool hj, .bool hr, .string x] w fun e w' => e = .returned (.bool true) ∧ Below w.heap.size w w' := by
  have HS : Hid (Strs w none g o n S) := hS
  have hz := zb15_any none g o n c S (.bool hj) (.bool hr) x w hS
  have s1 := sb_any none g o n c S w hS hSs
  have hq := neqNil22
  clear hS hSs
  by_cases c1 : n ≤ 65536
  · go_enter Try.func5, Try.ntmps5
    go_wp2_with fail
    refine hz.mono ?_
    rintro e wz ⟨⟨bz, rfl, _⟩, hwz⟩; subst wz
    clear hz
    cases bz with
    | false =>
      go_wp2_with fail
      go_ret
      exact ⟨rfl, Below.refl _ _⟩
    | true =>
      go_wp2_with fail
      refine s1.mono ?_
      rintro e wz ⟨r1, rfl, hr1, hwz⟩; subst wz
      clear s1
      go_wp2_with fail
      refine (add_any r1 x.size w (by omega) hx).mono ?_
      rintro e wz ⟨r3, rfl, hr3, hwz⟩; subst wz
      by_cases c4 : r3 ≤ 1048576
      · obtain ⟨sp, fl, HF, AA⟩ := kinds hj hr x
        go_wp2_with fail
        have ZZ : w.heap.size ≤ w.heap.size := (Below.refl w.heap.size w).size
        rcases AA with ⟨rfl, A⟩ | ⟨rfl, A⟩
        · refine (with_aux _ none g o n c S x w HS rfl c1).mono ?_
          rintro e w3 ⟨rfl, r3w, b3⟩
          have z3 := b3.size
          have HS3 : Hid (Strs w3 none g o n S) := HS.out.below b3 HS.out.lt
          have HW3 : Hid (Strs w3 (some ⟨w.heap.size, 0, none⟩) w.heap.size 0 (n + 1) (withS n S x)) := r3w.strs
          clear r3w
          go_wp2_with fail
          refine (without_aux _ none g o n c S x w3 HS3 rfl c1).mono ?_
          rintro e w4 ⟨v4, L, rfl, o4, lk, hL, b4⟩
          obtain ⟨aw, gw, cw, rfl, sw⟩ := strs_own x o4
          have z4 := b4.size
          have HS4 : Hid (Strs w4 none g o n S) := HS3.out.below b4 HS3.out.lt
          have HW4 : Hid (Strs w4 (some ⟨w.heap.size, 0, none⟩) w.heap.size 0 (n + 1) (withS n S x)) := HW3.out.below b4 HW3.out.lt
          have HV4 : Hid (Strs w4 aw gw 0 L.length (fun j => L.getD j x)) := sw
          have HLK : Hid (lacks L x) := lk
          clear o4 sw lk HS3 HW3
          have t1 := ztakes_any (some ⟨w.heap.size, 0, none⟩) w.heap.size 0 (n + 1) (n + 1) (withS n S x) hj hr x w4 HW4.out (by omega)
          rw [A.out] at t1
          go_wp2_with fail
          refine t1.mono ?_
          rintro e w5 ⟨rfl, b5⟩
          clear t1
          have z5 := b5.size
          have HS5 : Hid (Strs w5 none g o n S) := HS4.out.below b5 HS4.out.lt
          have HV5 : Hid (Strs w5 aw gw 0 L.length (fun j => L.getD j x)) := HV4.out.below b5 HV4.out.lt
          have t2 := ztakes_any aw gw 0 L.length cw (fun j => L.getD j x) hj hr x w5 HV5.out (by omega)
          rw [A.out] at t2
          clear HS4 HW4 HV4 HV5
          go_wp2_with fail
          refine t2.mono ?_
          rintro e w6 ⟨rfl, b6⟩
          clear t2
          have z6 := b6.size
          have HS6 : Hid (Strs w6 none g o n S) := HS5.out.below b6 HS5.out.lt
          have t3 := ztakes_any none g o n c S hj hr x w6 HS6.out (by omega)
          rw [A.out] at t3
          go_wp2_with fail
          refine t3.mono ?_
          rintro e w7 ⟨rfl, b7⟩
          clear t3
          have z7 := b7.size
          have BEL : Hid (Below w.heap.size w w7) := (Below.refl w.heap.size w).trans ((b3.mono ZZ).trans ((b4.mono (by omega)).trans ((b5.mono (by omega)).trans ((b6.mono (by omega)).trans (b7.mono (by omega))))))
          clear b3 b4 b5 b6 b7 z3 z4 z5 z6 z7 HS5 HS6
          go_wp2_with fail
          refine (HF.out _).mono ?_
          rintro e w8 ⟨rfl, hw8⟩; subst w8
          go_wp2_with fail
          go_ret
          exact ⟨by simp, BEL.out⟩
        · refine (with_aux _ none g o n c S x w HS rfl c1).mono ?_
          rintro e w3 ⟨rfl, r3w, b3⟩
          have z3 := b3.size
          have HS3 : Hid (Strs w3 none g o n S) := HS.out.below b3 HS.out.lt
          have HW3 : Hid (Strs w3 (some ⟨w.heap.size, 0, none⟩) w.heap.size 0 (n + 1) (withS n S x)) := r3w.strs
          clear r3w
          go_wp2_with fail
          refine (without_aux _ none g o n c S x w3 HS3 rfl c1).mono ?_
          rintro e w4 ⟨v4, L, rfl, o4, lk, hL, b4⟩
          obtain ⟨aw, gw, cw, rfl, sw⟩ := strs_own x o4
          have z4 := b4.size
          have HS4 : Hid (Strs w4 none g o n S) := HS3.out.below b4 HS3.out.lt
          have HW4 : Hid (Strs w4 (some ⟨w.heap.size, 0, none⟩) w.heap.size 0 (n + 1) (withS n S x)) := HW3.out.below b4 HW3.out.lt
          have HV4 : Hid (Strs w4 aw gw 0 L.length (fun j => L.getD j x)) := sw
          have HLK : Hid (lacks L x) := lk
          clear o4 sw lk HS3 HW3
          have t1 := ztakes_any (some ⟨w.heap.size, 0, none⟩) w.heap.size 0 (n + 1) (n + 1) (withS n S x) hj hr x w4 HW4.out (by omega)
          rw [A.out, withS_has] at t1
          go_wp2_with fail
          refine t1.mono ?_
          rintro e w5 ⟨rfl, b5⟩
          clear t1
          have z5 := b5.size
          have HS5 : Hid (Strs w5 none g o n S) := HS4.out.below b5 HS4.out.lt
          have HV5 : Hid (Strs w5 aw gw 0 L.length (fun j => L.getD j x)) := HV4.out.below b5 HV4.out.lt
          have t2 := ztakes_any aw gw 0 L.length cw (fun j => L.getD j x) hj hr x w5 HV5.out (by omega)
          rw [A.out, lacks_has L x HLK.out L.length (Nat.le_refl _)] at t2
          clear HS4 HW4 HV4 HV5
          go_wp2_with fail
          refine t2.mono ?_
          rintro e w6 ⟨rfl, b6⟩
          clear t2
          have z6 := b6.size
          have HS6 : Hid (Strs w6 none g o n S) := HS5.out.below b6 HS5.out.lt
          have t3 := ztakes_any none g o n c S hj hr x w6 HS6.out (by omega)
          rw [A.out] at t3
          go_wp2_with fail
          refine t3.mono ?_
          rintro e w7 ⟨rfl, b7⟩
          clear t3
          have z7 := b7.size
          have BEL : Hid (Below w.heap.size w w7) := (Below.refl w.heap.size w).trans ((b3.mono ZZ).trans ((b4.mono (by omega)).trans ((b5.mono (by omega)).trans ((b6.mono (by omega)).trans (b7.mono (by omega))))))
          have HS7 : Hid (Strs w7 none g o n S) := HS6.out.below b7 HS6.out.lt
          clear b3 b4 b5 b6 b7 z3 z4 z5 z6 z7 HS5 HS6
          go_wp2_with fail
          refine (HF.out _).mono ?_
          rintro e w8 ⟨rfl, hw8⟩; subst w8
          go_wp2_with fail
          refine (listed_any none g o n c S x w7 HS7.out (by omega)).mono ?_
          rintro e w8 ⟨rfl, hw8⟩; subst w8
          go_wp2_with fail
          go_ret
          exact ⟨by simp, BEL.out⟩
      · go_wp2_with fail
        go_ret
        exact ⟨rfl, Below.refl _ _⟩
  · go_enter Try.func5, Try.ntmps5
    go_wp2_with fail
    refine hz.mono ?_
    rintro e wz ⟨⟨bz, rfl, _⟩, hwz⟩; subst wz
    clear hz
    cases bz with
    | false =>
      go_wp2_with fail
      go_ret
      exact ⟨rfl, Below.refl _ _⟩
    | true =>
      go_wp2_with fail
      go_ret
      exact ⟨rfl, Below.refl _ _⟩


theorem lawC (ao : Option Addr) (g o n c : Nat) (S : Nat → ByteArray) (hj hr : Bool) (x : ByteArray) (w : World) (hS : Strs w ao g o n S) (hn : n ≤ 9223372036854775807) (hSs : ∀ j, j < n → (S j).size ≤ 9223372036854775807) (hx : x.size ≤ 9223372036854775807) :
    Calls Try.prog 5 #[.slice ao n c, .bool hj, .bool hr, .string x] w fun e w' => e = .returned (.bool true) ∧ Below w.heap.size w w' := by
  cases ao with
  | none => exact lawC_none g o n c S hj hr x w hS hn hSs hx
  | some ad => exact lawC_some ad g o n c S hj hr x w hS hn hSs hx

#print axioms lawC
end Go.Proofs.Qxb6604414a
