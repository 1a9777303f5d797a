/-
  SEAT b6604761a. zzReadUvarint (function 10): WHERE THE BYTES BEHIND i BEGIN WITH x's VARINT IT READS x BACK AND STANDS BEHIND IT. (The ten cases of the round are laid by program.)
-/
import Derived.Test.Qxb6604761aRows
import Derived.WalkKit
import Derived.Lib.VarintMem
import Derived.Lib.VarintBits
namespace Go.Proofs.Qxb6604761a
open Go.RowKit
set_option linter.unusedVariables false

/-- WHAT A READER IS TOLD OF A ROW OF BYTES: its address is known where it has elements, and its cells hold l. -/
structure Bytes (w : World) (ao : Option Addr) (g o n : Nat) (l : List UInt8) : Prop where
  len : l.length = n
  addr : 0 < n → ao = some ⟨g, o, none⟩
  cell : ∀ j (hj : j < l.length), w.cell? ⟨g, o + j, none⟩ = some (.int .u8 (l[j]).toNat)

theorem fin3 {a b : Int} {x : Value} {i : Int} (h : x = .int .u64 a) (h2 : i = b) :
    Ending.returned (.tuple #[x, .int .i64 i, .bool true]) = .returned (.tuple #[.int .u64 a, .int .i64 b, .bool true]) := by rw [h, h2]

theorem drop_head {l : List UInt8} {q : Nat} {b : UInt8} {r : List UInt8} (h : l.drop q = b :: r) : ∃ hq : q < l.length, l[q] = b ∧ l.drop (q + 1) = r := by
  have hq : q < l.length := by
    rcases Nat.lt_or_ge q l.length with h1 | h1
    · exact h1
    · rw [List.drop_eq_nil_of_le h1] at h; cases h
  rw [List.drop_eq_getElem_cons hq] at h
  injection h with h1 h2
  exact ⟨hq, h1, h2⟩

theorem u8z {a : Nat} (h : a < 256) : ((a.toUInt8).toNat : Int) = (a : Int) := by rw [Lib.toUInt8_toNat h]

set_option maxHeartbeats 4000000 in
set_option maxRecDepth 100000 in
theorem rd_any (ao : Option Addr) (g o n cap : Nat) (l : List UInt8) (w : World) (hb : Bytes w ao g o n l) (hn : n ≤ 140737488355328) (p x : Nat) (rest : List UInt8) (hl : l.drop p = Lib.uvarint x ++ rest) (hx : x < 18446744073709551616) :
    Calls Try.prog 10 #[.slice ao n cap, .int .i64 p] w fun e w' => e = .returned (.tuple #[.int .u64 x, .int .i64 ((p + (Lib.uvarint x).length : Nat) : Int), .bool true]) ∧ w' = w := by
  obtain ⟨hlen, hao, hcell⟩ := hb
  have hpn : p < n := by
    rcases Nat.lt_or_ge p l.length with h1 | h1
    · omega
    · rw [List.drop_eq_nil_of_le h1] at hl
      have := congrArg List.length hl
      have h2 := Lib.uvarint_pos x
      rw [List.length_append] at this
      simp at this
      omega
  obtain rfl := hao (by omega)
  have HL : Hid (l.drop p = Lib.uvarint x ++ rest) := hl
  have HC : Hid (∀ j (hj : j < l.length), w.cell? ⟨g, o + j, none⟩ = some (.int .u8 (l[j]).toNat)) := hcell
  have HN : Hid (l.length = n) := hlen
  clear hl hcell hlen hao
  go_enter Try.func10, Try.ntmps10
  go_wp2
  go_loop [7, 8, 9] (fun vx vs vk => ∃ k y acc : Nat, vs = .int .u64 ((7 * k : Nat) : Int) ∧ vx = .int .u64 acc ∧ vk = .int .i64 k ∧ k ≤ 9 ∧ acc < 2 ^ (7 * k) ∧ x = acc + y * 2 ^ (7 * k) ∧ Hid (l.drop (p + k) = Lib.uvarint y ++ rest) ∧ Hid ((Lib.uvarint x).length = k + (Lib.uvarint y).length))
    (fun _ _ vk => 10 - (intOf vk).toNat)
  case atStart => exact ⟨0, x, 0, rfl, rfl, rfl, by omega, by decide, by simp, HL, by show _ = _; omega⟩
  case round =>
    obtain ⟨k, y, acc, rfl, rfl, rfl, hk9, hacc, hxy, HD, HX⟩ := hrel
    have hlast : y < 128 → w.cell? ⟨g, o + (p + k), none⟩ = some (.int .u8 (y : Int)) := by
      intro hy
      have hd := HD.out
      rw [Lib.uvarint_small hy] at hd
      obtain ⟨h1, h2, _⟩ := drop_head hd
      have h3 := HC.out (p + k) h1
      rwa [h2, u8z (by omega)] at h3
    have hmore : 128 ≤ y → w.cell? ⟨g, o + (p + k), none⟩ = some (.int .u8 ((y : Int) % 128 + 128)) := by
      intro hy
      have hd := HD.out
      rw [Lib.uvarint_big hy] at hd
      obtain ⟨h1, h2, _⟩ := drop_head hd
      have h3 := HC.out (p + k) h1
      rw [h2, u8z (by omega)] at h3
      rw [h3]
      congr 2
    have hqn0 : p + k < n := by
      have hd := HD.out
      have h2 := Lib.uvarint_pos y
      have h3 := congrArg List.length hd
      have h4 := HN.out
      rw [List.length_append, List.length_drop] at h3
      omega
    have hdone : y < 128 → (p + (Lib.uvarint x).length ≤ p + k + 1 ∧ p + k + 1 ≤ p + (Lib.uvarint x).length) := by
      intro hy
      have h1 := HX.out
      rw [Lib.uvarint_small hy] at h1
      simp at h1
      omega
    have hgo : 128 ≤ y → Hid (l.drop (p + (k + 1)) = Lib.uvarint (y / 128) ++ rest) ∧ Hid ((Lib.uvarint x).length = (k + 1) + (Lib.uvarint (y / 128)).length) := by
      intro hy
      have hd := HD.out
      rw [Lib.uvarint_big hy] at hd
      obtain ⟨_, _, h3⟩ := drop_head hd
      have h1 := HX.out
      rw [Lib.uvarint_big hy, List.length_cons] at h1
      exact ⟨h3, by show _ = _; omega⟩
    clear HC HL HN HD HX
    have hks : k = 0 ∨ k = 1 ∨ k = 2 ∨ k = 3 ∨ k = 4 ∨ k = 5 ∨ k = 6 ∨ k = 7 ∨ k = 8 ∨ k = 9 := by omega
    rcases hks with rfl | rfl | rfl | rfl | rfl | rfl | rfl | rfl | rfl | rfl
    · have e7 : (2 : Nat) ^ (7 * 0) = 1 := by decide
      rw [e7] at hacc hxy
      have e8 : (2 : Nat) ^ (7 * (0 + 1)) = 128 := by decide
      have hqn : p + 0 < n := hqn0
      by_cases hy : y < 128
      · have hc : w.cell? ⟨g, o + (p), none⟩ = some (.int .u8 (y : Int)) := hlast hy
        have hor : bits .or .u64 (acc : Int) (IntKind.u64.wrap (IntKind.u64.wrap (bits .and .u8 (y : Int) 127))) = (x : Int) := by
          simp (disch := omega) only [u8_and127, u64_wrap_id, u64_orv0]
          omega
        have hend := hdone hy
        clear hlast hmore hdone hxy e7 e8 hx
        go_wp2
        go_ret3
        exact ⟨fin3 rfl (by omega), rfl⟩
      · have hc : w.cell? ⟨g, o + (p), none⟩ = some (.int .u8 ((y : Int) % 128 + 128)) := hmore (by omega)
        have hv : bits .or .u64 (acc : Int) (IntKind.u64.wrap (IntKind.u64.wrap (bits .and .u8 ((y : Int) % 128 + 128) 127))) = ((acc + y % 128 * 1 : Nat) : Int) := by
          simp (disch := omega) only [u8_and127, u64_wrap_id, u64_orv0]
          omega
        have hnext := hgo (by omega)
        clear hlast hmore hdone hgo
        go_wp2
        go_round
        case rel => exact ⟨0 + 1, y / 128, acc + y % 128 * 1, by go_num, by go_num, by go_num, by omega, by rw [e8]; omega, by rw [e8]; omega, hnext.1, hnext.2⟩
        case measure => simp [intOf]
    · have e7 : (2 : Nat) ^ (7 * 1) = 128 := by decide
      rw [e7] at hacc hxy
      have e8 : (2 : Nat) ^ (7 * (1 + 1)) = 16384 := by decide
      have hqn : p + 1 < n := hqn0
      by_cases hy : y < 128
      · have hc : w.cell? ⟨g, o + (p + 1), none⟩ = some (.int .u8 (y : Int)) := hlast hy
        have hor : bits .or .u64 (acc : Int) (IntKind.u64.wrap (IntKind.u64.wrap (bits .and .u8 (y : Int) 127) * 128)) = (x : Int) := by
          simp (disch := omega) only [u8_and127, u64_wrap_id, u64_orv7]
          omega
        have hend := hdone hy
        clear hlast hmore hdone hxy e7 e8 hx
        go_wp2
        go_ret3
        exact ⟨fin3 rfl (by omega), rfl⟩
      · have hc : w.cell? ⟨g, o + (p + 1), none⟩ = some (.int .u8 ((y : Int) % 128 + 128)) := hmore (by omega)
        have hv : bits .or .u64 (acc : Int) (IntKind.u64.wrap (IntKind.u64.wrap (bits .and .u8 ((y : Int) % 128 + 128) 127) * 128)) = ((acc + y % 128 * 128 : Nat) : Int) := by
          simp (disch := omega) only [u8_and127, u64_wrap_id, u64_orv7]
          omega
        have hnext := hgo (by omega)
        clear hlast hmore hdone hgo
        go_wp2
        go_round
        case rel => exact ⟨1 + 1, y / 128, acc + y % 128 * 128, by go_num, by go_num, by go_num, by omega, by rw [e8]; omega, by rw [e8]; omega, hnext.1, hnext.2⟩
        case measure => simp [intOf]
    · have e7 : (2 : Nat) ^ (7 * 2) = 16384 := by decide
      rw [e7] at hacc hxy
      have e8 : (2 : Nat) ^ (7 * (2 + 1)) = 2097152 := by decide
      have hqn : p + 2 < n := hqn0
      by_cases hy : y < 128
      · have hc : w.cell? ⟨g, o + (p + 2), none⟩ = some (.int .u8 (y : Int)) := hlast hy
        have hor : bits .or .u64 (acc : Int) (IntKind.u64.wrap (IntKind.u64.wrap (bits .and .u8 (y : Int) 127) * 16384)) = (x : Int) := by
          simp (disch := omega) only [u8_and127, u64_wrap_id, u64_orv14]
          omega
        have hend := hdone hy
        clear hlast hmore hdone hxy e7 e8 hx
        go_wp2
        go_ret3
        exact ⟨fin3 rfl (by omega), rfl⟩
      · have hc : w.cell? ⟨g, o + (p + 2), none⟩ = some (.int .u8 ((y : Int) % 128 + 128)) := hmore (by omega)
        have hv : bits .or .u64 (acc : Int) (IntKind.u64.wrap (IntKind.u64.wrap (bits .and .u8 ((y : Int) % 128 + 128) 127) * 16384)) = ((acc + y % 128 * 16384 : Nat) : Int) := by
          simp (disch := omega) only [u8_and127, u64_wrap_id, u64_orv14]
          omega
        have hnext := hgo (by omega)
        clear hlast hmore hdone hgo
        go_wp2
        go_round
        case rel => exact ⟨2 + 1, y / 128, acc + y % 128 * 16384, by go_num, by go_num, by go_num, by omega, by rw [e8]; omega, by rw [e8]; omega, hnext.1, hnext.2⟩
        case measure => simp [intOf]
    · have e7 : (2 : Nat) ^ (7 * 3) = 2097152 := by decide
      rw [e7] at hacc hxy
      have e8 : (2 : Nat) ^ (7 * (3 + 1)) = 268435456 := by decide
      have hqn : p + 3 < n := hqn0
      by_cases hy : y < 128
      · have hc : w.cell? ⟨g, o + (p + 3), none⟩ = some (.int .u8 (y : Int)) := hlast hy
        have hor : bits .or .u64 (acc : Int) (IntKind.u64.wrap (IntKind.u64.wrap (bits .and .u8 (y : Int) 127) * 2097152)) = (x : Int) := by
          simp (disch := omega) only [u8_and127, u64_wrap_id, u64_orv21]
          omega
        have hend := hdone hy
        clear hlast hmore hdone hxy e7 e8 hx
        go_wp2
        go_ret3
        exact ⟨fin3 rfl (by omega), rfl⟩
      · have hc : w.cell? ⟨g, o + (p + 3), none⟩ = some (.int .u8 ((y : Int) % 128 + 128)) := hmore (by omega)
        have hv : bits .or .u64 (acc : Int) (IntKind.u64.wrap (IntKind.u64.wrap (bits .and .u8 ((y : Int) % 128 + 128) 127) * 2097152)) = ((acc + y % 128 * 2097152 : Nat) : Int) := by
          simp (disch := omega) only [u8_and127, u64_wrap_id, u64_orv21]
          omega
        have hnext := hgo (by omega)
        clear hlast hmore hdone hgo
        go_wp2
        go_round
        case rel => exact ⟨3 + 1, y / 128, acc + y % 128 * 2097152, by go_num, by go_num, by go_num, by omega, by rw [e8]; omega, by rw [e8]; omega, hnext.1, hnext.2⟩
        case measure => simp [intOf]
    · have e7 : (2 : Nat) ^ (7 * 4) = 268435456 := by decide
      rw [e7] at hacc hxy
      have e8 : (2 : Nat) ^ (7 * (4 + 1)) = 34359738368 := by decide
      have hqn : p + 4 < n := hqn0
      by_cases hy : y < 128
      · have hc : w.cell? ⟨g, o + (p + 4), none⟩ = some (.int .u8 (y : Int)) := hlast hy
        have hor : bits .or .u64 (acc : Int) (IntKind.u64.wrap (IntKind.u64.wrap (bits .and .u8 (y : Int) 127) * 268435456)) = (x : Int) := by
          simp (disch := omega) only [u8_and127, u64_wrap_id, u64_orv28]
          omega
        have hend := hdone hy
        clear hlast hmore hdone hxy e7 e8 hx
        go_wp2
        go_ret3
        exact ⟨fin3 rfl (by omega), rfl⟩
      · have hc : w.cell? ⟨g, o + (p + 4), none⟩ = some (.int .u8 ((y : Int) % 128 + 128)) := hmore (by omega)
        have hv : bits .or .u64 (acc : Int) (IntKind.u64.wrap (IntKind.u64.wrap (bits .and .u8 ((y : Int) % 128 + 128) 127) * 268435456)) = ((acc + y % 128 * 268435456 : Nat) : Int) := by
          simp (disch := omega) only [u8_and127, u64_wrap_id, u64_orv28]
          omega
        have hnext := hgo (by omega)
        clear hlast hmore hdone hgo
        go_wp2
        go_round
        case rel => exact ⟨4 + 1, y / 128, acc + y % 128 * 268435456, by go_num, by go_num, by go_num, by omega, by rw [e8]; omega, by rw [e8]; omega, hnext.1, hnext.2⟩
        case measure => simp [intOf]
    · have e7 : (2 : Nat) ^ (7 * 5) = 34359738368 := by decide
      rw [e7] at hacc hxy
      have e8 : (2 : Nat) ^ (7 * (5 + 1)) = 4398046511104 := by decide
      have hqn : p + 5 < n := hqn0
      by_cases hy : y < 128
      · have hc : w.cell? ⟨g, o + (p + 5), none⟩ = some (.int .u8 (y : Int)) := hlast hy
        have hor : bits .or .u64 (acc : Int) (IntKind.u64.wrap (IntKind.u64.wrap (bits .and .u8 (y : Int) 127) * 34359738368)) = (x : Int) := by
          simp (disch := omega) only [u8_and127, u64_wrap_id, u64_orv35]
          omega
        have hend := hdone hy
        clear hlast hmore hdone hxy e7 e8 hx
        go_wp2
        go_ret3
        exact ⟨fin3 rfl (by omega), rfl⟩
      · have hc : w.cell? ⟨g, o + (p + 5), none⟩ = some (.int .u8 ((y : Int) % 128 + 128)) := hmore (by omega)
        have hv : bits .or .u64 (acc : Int) (IntKind.u64.wrap (IntKind.u64.wrap (bits .and .u8 ((y : Int) % 128 + 128) 127) * 34359738368)) = ((acc + y % 128 * 34359738368 : Nat) : Int) := by
          simp (disch := omega) only [u8_and127, u64_wrap_id, u64_orv35]
          omega
        have hnext := hgo (by omega)
        clear hlast hmore hdone hgo
        go_wp2
        go_round
        case rel => exact ⟨5 + 1, y / 128, acc + y % 128 * 34359738368, by go_num, by go_num, by go_num, by omega, by rw [e8]; omega, by rw [e8]; omega, hnext.1, hnext.2⟩
        case measure => simp [intOf]
    · have e7 : (2 : Nat) ^ (7 * 6) = 4398046511104 := by decide
      rw [e7] at hacc hxy
      have e8 : (2 : Nat) ^ (7 * (6 + 1)) = 562949953421312 := by decide
      have hqn : p + 6 < n := hqn0
      by_cases hy : y < 128
      · have hc : w.cell? ⟨g, o + (p + 6), none⟩ = some (.int .u8 (y : Int)) := hlast hy
        have hor : bits .or .u64 (acc : Int) (IntKind.u64.wrap (IntKind.u64.wrap (bits .and .u8 (y : Int) 127) * 4398046511104)) = (x : Int) := by
          simp (disch := omega) only [u8_and127, u64_wrap_id, u64_orv42]
          omega
        have hend := hdone hy
        clear hlast hmore hdone hxy e7 e8 hx
        go_wp2
        go_ret3
        exact ⟨fin3 rfl (by omega), rfl⟩
      · have hc : w.cell? ⟨g, o + (p + 6), none⟩ = some (.int .u8 ((y : Int) % 128 + 128)) := hmore (by omega)
        have hv : bits .or .u64 (acc : Int) (IntKind.u64.wrap (IntKind.u64.wrap (bits .and .u8 ((y : Int) % 128 + 128) 127) * 4398046511104)) = ((acc + y % 128 * 4398046511104 : Nat) : Int) := by
          simp (disch := omega) only [u8_and127, u64_wrap_id, u64_orv42]
          omega
        have hnext := hgo (by omega)
        clear hlast hmore hdone hgo
        go_wp2
        go_round
        case rel => exact ⟨6 + 1, y / 128, acc + y % 128 * 4398046511104, by go_num, by go_num, by go_num, by omega, by rw [e8]; omega, by rw [e8]; omega, hnext.1, hnext.2⟩
        case measure => simp [intOf]
    · have e7 : (2 : Nat) ^ (7 * 7) = 562949953421312 := by decide
      rw [e7] at hacc hxy
      have e8 : (2 : Nat) ^ (7 * (7 + 1)) = 72057594037927936 := by decide
      have hqn : p + 7 < n := hqn0
      by_cases hy : y < 128
      · have hc : w.cell? ⟨g, o + (p + 7), none⟩ = some (.int .u8 (y : Int)) := hlast hy
        have hor : bits .or .u64 (acc : Int) (IntKind.u64.wrap (IntKind.u64.wrap (bits .and .u8 (y : Int) 127) * 562949953421312)) = (x : Int) := by
          simp (disch := omega) only [u8_and127, u64_wrap_id, u64_orv49]
          omega
        have hend := hdone hy
        clear hlast hmore hdone hxy e7 e8 hx
        go_wp2
        go_ret3
        exact ⟨fin3 rfl (by omega), rfl⟩
      · have hc : w.cell? ⟨g, o + (p + 7), none⟩ = some (.int .u8 ((y : Int) % 128 + 128)) := hmore (by omega)
        have hv : bits .or .u64 (acc : Int) (IntKind.u64.wrap (IntKind.u64.wrap (bits .and .u8 ((y : Int) % 128 + 128) 127) * 562949953421312)) = ((acc + y % 128 * 562949953421312 : Nat) : Int) := by
          simp (disch := omega) only [u8_and127, u64_wrap_id, u64_orv49]
          omega
        have hnext := hgo (by omega)
        clear hlast hmore hdone hgo
        go_wp2
        go_round
        case rel => exact ⟨7 + 1, y / 128, acc + y % 128 * 562949953421312, by go_num, by go_num, by go_num, by omega, by rw [e8]; omega, by rw [e8]; omega, hnext.1, hnext.2⟩
        case measure => simp [intOf]
    · have e7 : (2 : Nat) ^ (7 * 8) = 72057594037927936 := by decide
      rw [e7] at hacc hxy
      have e8 : (2 : Nat) ^ (7 * (8 + 1)) = 9223372036854775808 := by decide
      have hqn : p + 8 < n := hqn0
      by_cases hy : y < 128
      · have hc : w.cell? ⟨g, o + (p + 8), none⟩ = some (.int .u8 (y : Int)) := hlast hy
        have hor : bits .or .u64 (acc : Int) (IntKind.u64.wrap (IntKind.u64.wrap (bits .and .u8 (y : Int) 127) * 72057594037927936)) = (x : Int) := by
          simp (disch := omega) only [u8_and127, u64_wrap_id, u64_orv56]
          omega
        have hend := hdone hy
        clear hlast hmore hdone hxy e7 e8 hx
        go_wp2
        go_ret3
        exact ⟨fin3 rfl (by omega), rfl⟩
      · have hc : w.cell? ⟨g, o + (p + 8), none⟩ = some (.int .u8 ((y : Int) % 128 + 128)) := hmore (by omega)
        have hv : bits .or .u64 (acc : Int) (IntKind.u64.wrap (IntKind.u64.wrap (bits .and .u8 ((y : Int) % 128 + 128) 127) * 72057594037927936)) = ((acc + y % 128 * 72057594037927936 : Nat) : Int) := by
          simp (disch := omega) only [u8_and127, u64_wrap_id, u64_orv56]
          omega
        have hnext := hgo (by omega)
        clear hlast hmore hdone hgo
        go_wp2
        go_round
        case rel => exact ⟨8 + 1, y / 128, acc + y % 128 * 72057594037927936, by go_num, by go_num, by go_num, by omega, by rw [e8]; omega, by rw [e8]; omega, hnext.1, hnext.2⟩
        case measure => simp [intOf]
    · have e7 : (2 : Nat) ^ (7 * 9) = 9223372036854775808 := by decide
      rw [e7] at hacc hxy
      have e8 : (2 : Nat) ^ (7 * (9 + 1)) = 1180591620717411303424 := by decide
      have hqn : p + 9 < n := hqn0
      by_cases hy : y < 128
      · have hc : w.cell? ⟨g, o + (p + 9), none⟩ = some (.int .u8 (y : Int)) := hlast hy
        have hy1 : y ≤ 1 := by omega
        have hor : bits .or .u64 (acc : Int) (IntKind.u64.wrap (IntKind.u64.wrap (bits .and .u8 (y : Int) 127) * 9223372036854775808)) = (x : Int) := by
          simp (disch := omega) only [u8_and127, u64_wrap_id, u64_orv63]
          omega
        have hend := hdone hy
        clear hlast hmore hdone hxy e7 e8 hx
        go_wp2
        go_ret3
        exact ⟨fin3 rfl (by omega), rfl⟩
      · exfalso; omega

#print axioms rd_any
end Go.Proofs.Qxb6604761a
