/-
  SEAT b6604414a. zzJB1IsShared (24), zzJB1SharedPins (26).
-/
import Derived.Test.Qxb6604414aPins
namespace Go.Proofs.Qxb6604414a
open Go.RowKit
set_option linter.unusedVariables false

def nT : ByteArray := ⟨#[116, 105, 109, 101, 76, 105, 109, 105, 116]⟩
def nP : ByteArray := ⟨#[112, 111, 105, 110, 116, 115]⟩
def nX : ByteArray := ⟨#[101, 120, 99, 108, 117, 100, 101, 70, 114, 111, 109, 83, 99, 111, 114, 101]⟩
def nO : ByteArray := ⟨#[111, 112, 116, 105, 111, 110, 115]⟩

theorem tT (hj hr h : Bool) : takesB hj hr nT h = hj := takesB_T (by decide +kernel) (by decide +kernel) (by decide +kernel)
theorem tP (hj hr h : Bool) : takesB hj hr nP h = hr := takesB_P (by decide +kernel)
theorem tX (hj hr h : Bool) : takesB hj hr nX h = hr := takesB_X (by decide +kernel)
theorem tO (hj hr h : Bool) : takesB hj hr nO h = h := takesB_O (by decide +kernel) (by decide +kernel) (by decide +kernel)

theorem tpins (k : Nat) (h1 : 10 ≤ k) (h2 : k < 13) (h : Bool) : takesB false false (nmOf k) h = false ∧ takesB true true (nmOf k) h = true := by
  have e : k = 10 ∨ k = 11 ∨ k = 12 := by omega
  rcases e with rfl | rfl | rfl
  · exact ⟨tP _ _ _, tP _ _ _⟩
  · exact ⟨tT _ _ _, tT _ _ _⟩
  · exact ⟨tX _ _ _, tX _ _ _⟩

set_option maxRecDepth 100000 in
theorem shared_any (x : ByteArray) (w : World) : Calls Try.prog 24 #[.string x] w fun e w' => e = .returned (.bool (isP x || isX x || isT x)) ∧ w' = w := by
  cases hP : isP x with
  | true =>
    unfold isP at hP
    go_enter Try.func24, Try.ntmps24
    go_wp2
    go_ret
    exact ⟨by simp, rfl⟩
  | false =>
    cases hX : isX x with
    | true =>
      unfold isP at hP
      unfold isX at hX
      go_enter Try.func24, Try.ntmps24
      go_wp2
      go_ret
      exact ⟨by simp, rfl⟩
    | false =>
      cases hT : isT x with
      | true =>
        unfold isP at hP
        unfold isX at hX
        unfold isT at hT
        go_enter Try.func24, Try.ntmps24
        go_wp2
        go_ret
        exact ⟨by simp, rfl⟩
      | false =>
        unfold isP at hP
        unfold isX at hX
        unfold isT at hT
        go_enter Try.func24, Try.ntmps24
        go_wp2
        go_ret
        exact ⟨by simp, rfl⟩

def S0 (_ : Nat) : ByteArray := ⟨#[]⟩
theorem strs0 (w : World) : Strs w none 0 0 0 S0 := ⟨fun h => absurd h (by omega), fun j hj => absurd hj (by omega)⟩
theorem allS_hasO : hasB (allS 0 S0) nO 13 = true := hasB_mono _ _ 1 13 (by omega) (by decide +kernel)

/-- takes on a list that stands, and on nil. -/
theorem tk_all (B : Nat) (hj hr : Bool) (x : ByteArray) (b : Bool) (hb : takesB hj hr x (hasB (allS 0 S0) x 13) = b) (w : World) (h : Strs w (some ⟨B, 0, none⟩) B 0 13 (allS 0 S0)) :
    Calls Try.prog 18 #[.slice (some ⟨B, 0, none⟩) 13 13, .bool hj, .bool hr, .string x] w fun e w' => e = .returned (.bool b) ∧ Below w.heap.size w w' := by
  have := ztakes_any (some ⟨B, 0, none⟩) B 0 13 13 (allS 0 S0) hj hr x w h (by omega)
  rwa [hb] at this
theorem tk_nil (hj hr : Bool) (x : ByteArray) (b : Bool) (hb : takesB hj hr x false = b) (w : World) :
    Calls Try.prog 18 #[.slice none 0 0, .bool hj, .bool hr, .string x] w fun e w' => e = .returned (.bool b) ∧ Below w.heap.size w w' := by
  have := ztakes_any none 0 0 0 0 S0 hj hr x w (strs0 w) (by omega)
  have e : hasB S0 x 0 = false := rfl
  rwa [e, hb] at this

set_option maxHeartbeats 2000000 in
set_option maxRecDepth 100000 in
theorem pins_aux (B : Nat) (w : World) (HW : Hid (B = w.heap.size)) : Calls Try.prog 26 #[] w fun e w' => e = .returned (.bool true) ∧ Below B w w' := by
  have a0 := all_aux B none 0 0 0 0 S0 w (strs0 w) HW (by omega)
  simp only [Nat.zero_add] at a0
  go_enter Try.func26, Try.ntmps26
  go_wp2_with fail
  refine a0.mono ?_
  rintro e w1 ⟨rfl, r1, b1⟩
  have HA1 : Hid (Strs w1 (some ⟨B, 0, none⟩) B 0 13 (allS 0 S0)) := r1.strs
  have HB1 : Hid (Below B w w1) := b1
  clear a0 r1 b1
  go_wp2_with fail
  go_loopw [2] (fun vi wr => ∃ k : Nat, 10 ≤ k ∧ k ≤ 13 ∧ vi = .int .i64 k ∧ Hid (Strs wr (some ⟨B, 0, none⟩) B 0 13 (allS 0 S0)) ∧ Hid (Below B w wr)) (fun vi _ => 13 - (intOf vi).toNat)
  case atStart => exact ⟨10, by omega, by omega, rfl, HA1, HB1⟩
  case round =>
    obtain ⟨k, hk1, hk2, rfl, HA, HB⟩ := hrel
    clear HA1 HB1
    have z0 := HB.out.size
    have hBr : B ≤ wr.heap.size := by have := HW.out; omega
    by_cases hlt : k < 13
    · have hki : (k : Int) < 13 := by omega
      go_wp2_with fail
      refine (kfn_any k hlt _).mono ?_
      rintro e w3 ⟨rfl, hw3⟩; subst w3
      go_wp2_with fail
      refine (tk_all B false false (nmOf k) false (tpins k hk1 hlt _).1 _ HA.out).mono ?_
      rintro e w4 ⟨rfl, b4⟩
      have z4 := b4.size
      have HA4 : Hid (Strs w4 (some ⟨B, 0, none⟩) B 0 13 (allS 0 S0)) := HA.out.below b4 HA.out.lt
      have HB4 : Hid (Below B w w4) := HB.out.trans (b4.mono hBr)
      clear b4 HA HB
      go_wp2_with fail
      refine (tk_nil true true (nmOf k) true (tpins k hk1 hlt _).2 _).mono ?_
      rintro e w5 ⟨rfl, b5⟩
      have HA5 : Hid (Strs w5 (some ⟨B, 0, none⟩) B 0 13 (allS 0 S0)) := HA4.out.below b5 HA4.out.lt
      have HB5 : Hid (Below B w w5) := HB4.out.trans (b5.mono (by omega))
      clear b5 HA4 HB4 z4
      go_wp2_with fail
      go_roundw
      case rel => exact ⟨k + 1, by omega, by omega, by go_num, HA5, HB5⟩
      case measure => simp [intOf]; omega
    · obtain rfl : k = 13 := by omega
      have t1 := tk_all B true false nT true (tT _ _ _) wr HA.out
      unfold nT at t1
      go_wp2_with fail
      refine t1.mono ?_
      rintro e w4 ⟨rfl, b4⟩
      clear t1
      have z4 := b4.size
      have HA4 : Hid (Strs w4 (some ⟨B, 0, none⟩) B 0 13 (allS 0 S0)) := HA.out.below b4 HA.out.lt
      have HB4 : Hid (Below B w w4) := HB.out.trans (b4.mono hBr)
      clear b4
      have t2 := tk_all B true false nP false (tP _ _ _) w4 HA4.out
      unfold nP at t2
      go_wp2_with fail
      refine t2.mono ?_
      rintro e w5 ⟨rfl, b5⟩
      clear t2
      have z5 := b5.size
      have HA5 : Hid (Strs w5 (some ⟨B, 0, none⟩) B 0 13 (allS 0 S0)) := HA4.out.below b5 HA4.out.lt
      have HB5 : Hid (Below B w w5) := HB4.out.trans (b5.mono (by omega))
      clear b5
      have t3 := tk_all B true false nX false (tX _ _ _) w5 HA5.out
      unfold nX at t3
      go_wp2_with fail
      refine t3.mono ?_
      rintro e w6 ⟨rfl, b6⟩
      clear t3
      have z6 := b6.size
      have HA6 : Hid (Strs w6 (some ⟨B, 0, none⟩) B 0 13 (allS 0 S0)) := HA5.out.below b6 HA5.out.lt
      have HB6 : Hid (Below B w w6) := HB5.out.trans (b6.mono (by omega))
      clear b6
      have t4 := tk_all B false false nO true ((tO _ _ _).trans allS_hasO) w6 HA6.out
      unfold nO at t4
      go_wp2_with fail
      refine t4.mono ?_
      rintro e w7 ⟨rfl, b7⟩
      clear t4
      have z7 := b7.size
      have HB7 : Hid (Below B w w7) := HB6.out.trans (b7.mono (by omega))
      clear b7
      have t5 := tk_nil true true nO false (tO _ _ _) w7
      unfold nO at t5
      go_wp2_with fail
      refine t5.mono ?_
      rintro e w8 ⟨rfl, b8⟩
      clear t5
      have HB8 : Hid (Below B w w8) := HB7.out.trans (b8.mono (by omega))
      clear b8
      go_wp2_with fail
      go_ret
      exact ⟨rfl, HB8.out⟩

#print axioms pins_aux
end Go.Proofs.Qxb6604414a
