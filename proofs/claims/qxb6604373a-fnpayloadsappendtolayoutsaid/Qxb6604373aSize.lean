/-
  SEAT b6604373a. zzUvarintSize (26) IS THE LENGTH OF THE VARINT.
-/
import Derived.Test.Qxb6604373aRows
import Derived.WalkKit
import Derived.Lib.VarintMem
namespace Go.Proofs.Qxb6604373a
open Go.RowKit
set_option linter.unusedVariables false

theorem uv_bounds (x : Nat) : 1 ≤ x → 2 ^ (7 * ((Lib.uvarint x).length - 1)) ≤ x ∧ x < 2 ^ (7 * (Lib.uvarint x).length) := by
  induction x using Nat.strongRecOn with
  | _ x ih =>
    intro h
    by_cases hx : x < 128
    · rw [Lib.uvarint_small hx]
      exact ⟨by simpa using h, by simpa using hx⟩
    · obtain ⟨h1, h2⟩ := ih (x / 128) (by omega) (by omega)
      have hp := Lib.uvarint_pos (x / 128)
      rw [Lib.uvarint_big (by omega), List.length_cons]
      have e1 : 7 * ((Lib.uvarint (x / 128)).length + 1 - 1) = 7 * ((Lib.uvarint (x / 128)).length - 1) + 7 := by omega
      have e2 : 7 * ((Lib.uvarint (x / 128)).length + 1) = 7 * (Lib.uvarint (x / 128)).length + 7 := by omega
      rw [e1, e2, Nat.pow_add, Nat.pow_add]
      have e3 : (2 : Nat) ^ 7 = 128 := by decide
      rw [e3]
      omega

theorem uv_size (x b : Nat) (h1 : 2 ^ (b - 1) ≤ x) (h2 : x < 2 ^ b) (hb : 1 ≤ b) : (Lib.uvarint x).length = (b + 6) / 7 := by
  have hx : 1 ≤ x := Nat.le_trans (Nat.one_le_two_pow) h1
  obtain ⟨h3, h4⟩ := uv_bounds x hx
  have hp := Lib.uvarint_pos x
  have a : b - 1 < 7 * (Lib.uvarint x).length := (Nat.pow_lt_pow_iff_right (a := 2) (by decide)).1 (Nat.lt_of_le_of_lt h1 h4)
  have c : 7 * ((Lib.uvarint x).length - 1) < b := (Nat.pow_lt_pow_iff_right (a := 2) (by decide)).1 (Nat.lt_of_le_of_lt h3 h2)
  omega

set_option maxHeartbeats 1000000 in
set_option maxRecDepth 100000 in
theorem us_any (x : Int) (h0 : 0 ≤ x) (h1 : x < 18446744073709551616) (w : World) :
    Calls Try.prog 26 #[.int .u64 x] w fun e w' => e = .returned (.int .i64 ((Lib.uvarint x.toNat).length : Int)) ∧ w' = w := by
  obtain ⟨n, rfl⟩ := Int.eq_ofNat_of_zero_le h0
  rw [Int.toNat_natCast]
  go_enter Try.func26, Try.ntmps26
  go_wp2
  go_loop [3, 4] (fun vb vx => ∃ b y : Nat, vb = .int .i64 b ∧ vx = .int .u64 y ∧ b ≤ 64 ∧ y ≤ n ∧ Hid (y = n / 2 ^ b) ∧ Hid (b = 0 ∨ 2 ^ (b - 1) ≤ n)) (fun _ vx => (intOf vx).toNat)
  case atStart => exact ⟨0, n, rfl, rfl, by omega, by omega, by show n = n / 2 ^ 0; simp, .inl rfl⟩
  case round =>
    obtain ⟨b, y, rfl, rfl, hb, hyn, HY, HM⟩ := hrel
    by_cases hy : y = 0
    · subst hy
      by_cases hb0 : b = 0
      · subst hb0
        have hn : n = 0 := by have := HY.out; simpa using this.symm
        subst hn
        go_wp2
        go_ret
        exact ⟨by rw [Lib.uvarint_small (by decide)]; rfl, rfl⟩
      · have hlt : n < 2 ^ b := by
          have := HY.out
          rcases Nat.lt_or_ge n (2 ^ b) with h | h
          · exact h
          · have := Nat.div_pos h (Nat.two_pow_pos b); omega
        have hge : 2 ^ (b - 1) ≤ n := by rcases HM.out with h | h; exact absurd h hb0; exact h
        have hsz := uv_size n b hge hlt (by omega)
        have HS : Hid ((Lib.uvarint n).length = (b + 6) / 7) := hsz
        have hb1 : 1 ≤ b := by omega
        have hbz : ((b : Int) == 0) = false := by simp; omega
        clear hsz hlt hge HM HY
        go_wp2
        go_ret
        exact ⟨by rw [HS.out]; go_num, rfl⟩
    · have hb64 : b < 64 := by
        have h := HY.out
        rcases Nat.lt_or_ge b 64 with h' | h'
        · exact h'
        · obtain rfl : b = 64 := by omega
          have : n / 2 ^ 64 = 0 := Nat.div_eq_of_lt (by omega)
          omega
      have hyp : 1 ≤ y := by omega
      have HY2 : Hid (y / 2 = n / 2 ^ (b + 1)) := by
        show _ = _
        rw [HY.out, Nat.div_div_eq_div_mul, Nat.pow_succ]
      have HM2 : Hid (b + 1 = 0 ∨ 2 ^ (b + 1 - 1) ≤ n) := by
        refine .inr ?_
        rw [show b + 1 - 1 = b by omega]
        have h := HY.out
        rcases Nat.lt_or_ge n (2 ^ b) with h' | h'
        · rw [Nat.div_eq_of_lt h'] at h; omega
        · exact h'
      have hyz : ((y : Int) != 0) = true := by simp; omega
      clear HY HM
      go_wp2
      go_round
      case rel => exact ⟨b + 1, y / 2, by go_num, by go_num, by omega, by omega, HY2, HM2⟩
      case measure => simp [intOf]; omega

#print axioms us_any
end Go.Proofs.Qxb6604373a
