/-
  SEAT b6604761a. THE WALK OF FnSignedTwoWritesReadBack (3).
-/
import Derived.Test.Qxb6604761aSig2
namespace Go.Proofs.Qxb6604761a
open Go.RowKit
set_option linter.unusedVariables false

theorem uv_last (x : Nat) : 1 ≤ x → ∃ pre c, Lib.uvarint x = pre ++ [c] ∧ 1 ≤ c.toNat := by
  induction x using Nat.strongRecOn with
  | _ x ih =>
    intro h
    by_cases hx : x < 128
    · exact ⟨[], x.toUInt8, by rw [Lib.uvarint_small hx]; rfl, by rw [Lib.toUInt8_toNat (by omega)]; exact h⟩
    · obtain ⟨pre, c, h1, h2⟩ := ih (x / 128) (by omega) (by omega)
      exact ⟨(x % 128 + 128).toUInt8 :: pre, c, by rw [Lib.uvarint_big (by omega), h1]; rfl, h2⟩

/-- Where the varint of z ends in l: its last byte is not 0, unless it is the only one. -/
theorem last_byte {l : List UInt8} {p z : Nat} {r : List UInt8} (h : l.drop p = Lib.uvarint z ++ r) (hz : (Lib.uvarint z).length ≠ 1) : ∃ hq : p + (Lib.uvarint z).length - 1 < l.length, 1 ≤ (l[p + (Lib.uvarint z).length - 1]).toNat := by
  have hp := Lib.uvarint_pos z
  have hz1 : 1 ≤ z := by
    rcases Nat.eq_zero_or_pos z with h0 | h0
    · subst h0
      exact absurd (by rw [Lib.uvarint_small (by decide)]; rfl) hz
    · exact h0
  obtain ⟨pre, c, h1, h2⟩ := uv_last z hz1
  have hl : (Lib.uvarint z).length = pre.length + 1 := by rw [h1]; simp
  have hlen := congrArg List.length h
  rw [List.length_drop, List.length_append] at hlen
  have hq : p + (Lib.uvarint z).length - 1 < l.length := by omega
  refine ⟨hq, ?_⟩
  have e1 : (l.drop p)[pre.length]? = some c := by
    rw [h, h1, List.append_assoc, List.getElem?_append_right (Nat.le_refl _)]
    simp
  rw [List.getElem?_drop] at e1
  have e2 : p + (Lib.uvarint z).length - 1 = p + pre.length := by omega
  have e3 : l[p + (Lib.uvarint z).length - 1]? = some c := by rw [e2]; exact e1
  rw [List.getElem?_eq_getElem hq] at e3
  rw [Option.some.inj e3]
  exact h2

theorem i64_bd (s : Int) (h : (Lit.int .i64 s).wf = true) : -9223372036854775808 ≤ s ∧ s ≤ 9223372036854775807 := by
  have h4 : IntKind.i64.min ≤ s ∧ s ≤ IntKind.i64.max := by simpa [Lit.wf] using h
  have e1 : IntKind.i64.min = -9223372036854775808 := by decide
  have e2 : IntKind.i64.max = 9223372036854775807 := by decide
  omega

set_option maxHeartbeats 4000000 in
set_option maxRecDepth 100000 in
theorem law (a0 : Option Addr) (g0 o0 n cap0 : Nat) (l : List UInt8) (x y : Int) (w : World) (hY : Bytes w a0 g0 o0 n l) (hn : n ≤ 9223372036854775807) (hx0 : -9223372036854775808 ≤ x) (hx1 : x ≤ 9223372036854775807) (hy0 : -9223372036854775808 ≤ y) (hy1 : y ≤ 9223372036854775807) :
    Calls Try.prog 3 #[.slice a0 n cap0, .int .i64 x, .int .i64 y] w fun e w' => e = .returned (.bool true) ∧ Below w.heap.size w w' := by
  have HY : Hid (Bytes w a0 g0 o0 n l) := hY
  clear hY
  have hz := zb_any (.int .i64 x) (.int .i64 y) a0 n cap0 w hn
  by_cases c0 : n ≤ 1048576
  · rw [decide_eq_true c0] at hz
    by_cases c1 : n ≤ 65536
    · go_enter Try.func3, Try.ntmps3
      go_wp2_with fail
      refine hz.mono ?_
      rintro e wz ⟨rfl, hwz⟩; subst wz
      clear hz
      go_wp2_with fail
      refine (clone_any a0 g0 o0 n cap0 l w HY.out c0).mono ?_
      rintro e w1 ⟨ab, rfl, ob, b1⟩
      obtain ⟨ab', gb, cb', hv, yb, lob, _⟩ := Bytes.own ob
      injection hv with hv1 hv2 hv3
      subst hv1
      have z1 := b1.size
      have YB : Hid (Bytes w1 ab gb 0 n l) := yb
      have tb : 0 < n → gb < w1.heap.size := fun h => yb.lt h
      clear ob yb hv2 hv3 lob HY
      go_wp2_with fail
      refine (zs_full n x hx0 hx1 ab gb 0 l w1 YB.out c0).mono ?_
      rintro e w2 ⟨v2, rfl, o2, b2⟩
      obtain ⟨a2, g2, c2, rfl, _, _, _⟩ := Bytes.own o2
      have z2 := b2.size
      have hL1 := Lib.uvarint_length64 (Lib.zigzag_lt hx0 hx1)
      have hL2 := Lib.uvarint_length64 (Lib.zigzag_lt hy0 hy1)
      have hL1p := Lib.uvarint_pos (Lib.zigzag x)
      have hL2p := Lib.uvarint_pos (Lib.zigzag y)
      go_wp2_with fail
      refine (zs_own w1.heap.size _ y hy0 hy1 a2 c2 _ w2 o2 z2 (by omega)).mono ?_
      rintro e w3 ⟨v3, rfl, o3, b3⟩
      obtain ⟨a3, g3, c3, rfl, y3, _, _⟩ := Bytes.own o3
      have z3 := b3.size
      have YB3 : Hid (Bytes w3 ab gb 0 n l) := YB.out.below (b2.trans b3) tb
      have YG : Hid (Bytes w3 a3 g3 0 (n + (Lib.uvarint (Lib.zigzag x)).length + (Lib.uvarint (Lib.zigzag y)).length) ((l ++ Lib.uvarint (Lib.zigzag x)) ++ Lib.uvarint (Lib.zigzag y))) := y3
      have BE : Hid (Below w.heap.size w w3) := b1.trans ((b2.trans b3).mono z1)
      clear o2 o3 y3 b1 b2 b3 YB
      have hll : l.length = n := YB3.out.len
      obtain ⟨zx, hzx⟩ : ∃ z, z = Lib.zigzag x := ⟨_, rfl⟩
      obtain ⟨zy, hzy⟩ : ∃ z, z = Lib.zigzag y := ⟨_, rfl⟩
      have hzxl := Lib.zigzag_lt hx0 hx1
      have hzyl := Lib.zigzag_lt hy0 hy1
      have U1 := fun wx => unzig_any x hx0 hx1 wx
      have U2 := fun wx => unzig_any y hy0 hy1 wx
      rw [← hzx] at hL1 hL1p YG hzxl ⊢
      rw [← hzy] at hL2 hL2p YG hzyl ⊢
      simp only [← hzx] at U1
      simp only [← hzy] at U2
      clear hzx hzy
      have D1 : ((l ++ Lib.uvarint zx) ++ Lib.uvarint zy).drop n = Lib.uvarint zx ++ Lib.uvarint zy := by rw [← hll, List.append_assoc, List.drop_left]
      obtain ⟨P1, hP1⟩ : ∃ P, P = n + (Lib.uvarint zx).length := ⟨_, rfl⟩
      have D2 : ((l ++ Lib.uvarint zx) ++ Lib.uvarint zy).drop P1 = Lib.uvarint zy ++ [] := by rw [hP1, ← List.drop_drop, D1, List.drop_left, List.append_nil]
      obtain ⟨P2, hP2⟩ : ∃ P, P = P1 + (Lib.uvarint zy).length := ⟨_, rfl⟩
      rw [← hP1, ← hP2] at YG
      have HPRE : Hid ((l ++ Lib.uvarint zx) ++ Lib.uvarint zy = l ++ (Lib.uvarint zx ++ Lib.uvarint zy)) := List.append_assoc _ _ _
      have hP2b : P2 ≤ 65600 := by omega
      rw [← hP1, ← hP2]
      have HP1 : Hid (P1 = n + (Lib.uvarint zx).length) := hP1
      have HP2 : Hid (P2 = P1 + (Lib.uvarint zy).length) := hP2
      have HD1 : Hid (((l ++ Lib.uvarint zx) ++ Lib.uvarint zy).drop n = Lib.uvarint zx ++ Lib.uvarint zy) := D1
      have HD2 : Hid (((l ++ Lib.uvarint zx) ++ Lib.uvarint zy).drop P1 = Lib.uvarint zy ++ []) := D2
      have HU1 : Hid (∀ wx, Calls Try.prog 11 #[.int .u64 (zx : Int)] wx fun e w' => e = .returned (.int .i64 x) ∧ w' = wx) := U1
      have HU2 : Hid (∀ wx, Calls Try.prog 11 #[.int .u64 (zy : Int)] wx fun e w' => e = .returned (.int .i64 y) ∧ w' = wx) := U2
      clear hP1 hP2 D1 D2 hll U1 U2
      go_wp2_with fail
      refine (pre_any a3 g3 0 _ c3 _ ab gb 0 n n l w3 YG.out YB3.out (by omega) (Lib.uvarint zx ++ Lib.uvarint zy) HPRE.out).mono ?_
      rintro e w4 ⟨rfl, nq, rfl⟩
      have hP1 := HP1.out
      have hP2 := HP2.out
      have D1 := HD1.out
      have D2 := HD2.out
      have R1 := rd_any a3 g3 0 _ c3 _ (w3.drewN nq) (YG.out.carry fun _ => rfl) (by omega) n zx _ D1 hzxl
      have R2 := rd_any a3 g3 0 _ c3 _ (w3.drewN nq) (YG.out.carry fun _ => rfl) (by omega) P1 zy _ D2 hzyl
      rw [← hP1] at R1
      rw [← hP2] at R2
      have B1 : (Lib.uvarint zx).length ≠ 1 → ∃ c : Int, c ≠ 0 ∧ w3.cell? ⟨g3, P1 - 1, none⟩ = some (.int .u8 c) := fun h => by
        obtain ⟨hq, h1⟩ := last_byte D1 h
        rw [hP1]
        refine ⟨_, ?_, by have := YG.out.cell _ hq; rwa [Nat.zero_add] at this⟩
        omega
      have B2 : (Lib.uvarint zy).length ≠ 1 → ∃ c : Int, c ≠ 0 ∧ w3.cell? ⟨g3, P2 - 1, none⟩ = some (.int .u8 c) := fun h => by
        obtain ⟨hq, h1⟩ := last_byte D2 h
        rw [hP2]
        refine ⟨_, ?_, by have := YG.out.cell _ hq; rwa [Nat.zero_add] at this⟩
        omega
      obtain rfl := YG.out.addr (by omega)
      obtain ⟨K1, hK1⟩ : ∃ k, k = (Lib.uvarint zx).length := ⟨_, rfl⟩
      obtain ⟨K2, hK2⟩ : ∃ k, k = (Lib.uvarint zy).length := ⟨_, rfl⟩
      rw [← hK1] at B1 hP1 hL1p hL1
      rw [← hK2] at B2 hP2 hL2p hL2
      obtain ⟨q1, hq1⟩ : ∃ q, q = P1 - 1 := ⟨_, rfl⟩
      obtain ⟨q2, hq2⟩ : ∃ q, q = P2 - 1 := ⟨_, rfl⟩
      rw [← hq1] at B1
      rw [← hq2] at B2
      have HB1 : Hid (K1 ≠ 1 → ∃ c : Int, c ≠ 0 ∧ w3.cell? ⟨g3, q1, none⟩ = some (.int .u8 c)) := B1
      have HB2 : Hid (K2 ≠ 1 → ∃ c : Int, c ≠ 0 ∧ w3.cell? ⟨g3, q2, none⟩ = some (.int .u8 c)) := B2
      clear B1 B2
      have i1 : (P1 : Int) - 1 = (q1 : Int) := by omega
      have i2 : (P2 : Int) - 1 = (q2 : Int) := by omega
      have j1 : (q1 : Int) < (P2 : Int) := by omega
      have j2 : (q2 : Int) < (P2 : Int) := by omega
      have k1 : (P1 : Int) - (n : Int) = (K1 : Int) := by omega
      have k2 : (P2 : Int) - (P1 : Int) = (K2 : Int) := by omega
      clear YG YB3 HPRE D1 D2 hK1 hK2 hq1 hq2 hP1 hP2 hL1 hL2 hzxl hzyl HP1 HP2 HD1 HD2
      by_cases m1 : K1 = 1
      · by_cases m2 : K2 = 1
        · have q1' : ((K1 : Int) == 1) = true := by simp; omega
          have q2' : ((K2 : Int) == 1) = true := by simp; omega
          clear HB1 HB2
          go_wp2_with fail
          refine R1.mono ?_
          rintro e w6 ⟨rfl, hw6⟩; subst w6
          clear R1
          go_wp2_with fail
          refine R2.mono ?_
          rintro e w6 ⟨rfl, hw6⟩; subst w6
          clear R2
          go_wp2_with fail
          refine (HU1.out _).mono ?_
          rintro e w6 ⟨rfl, hw6⟩; subst w6
          go_wp2_with fail
          refine (HU2.out _).mono ?_
          rintro e w6 ⟨rfl, hw6⟩; subst w6
          go_wp2_with fail
          go_ret
          exact ⟨by simp, below_drewN BE.out nq⟩
        · obtain ⟨cb, hcb, hc2⟩ := HB2.out m2
          have q1' : ((K1 : Int) == 1) = true := by simp; omega
          have q2' : ((K2 : Int) == 1) = false := by simp; omega
          have n2' : (cb != 0) = true := by simp; exact hcb
          clear HB1 HB2
          go_wp2_with fail
          refine R1.mono ?_
          rintro e w6 ⟨rfl, hw6⟩; subst w6
          clear R1
          go_wp2_with fail
          refine R2.mono ?_
          rintro e w6 ⟨rfl, hw6⟩; subst w6
          clear R2
          go_wp2_with fail
          refine (HU1.out _).mono ?_
          rintro e w6 ⟨rfl, hw6⟩; subst w6
          go_wp2_with fail
          refine (HU2.out _).mono ?_
          rintro e w6 ⟨rfl, hw6⟩; subst w6
          go_wp2_with fail
          go_ret
          exact ⟨by simp, below_drewN BE.out nq⟩
      · obtain ⟨ca, hca, hc1⟩ := HB1.out m1
        have q1' : ((K1 : Int) == 1) = false := by simp; omega
        have n1' : (ca != 0) = true := by simp; exact hca
        by_cases m2 : K2 = 1
        · have q2' : ((K2 : Int) == 1) = true := by simp; omega
          clear HB1 HB2
          go_wp2_with fail
          refine R1.mono ?_
          rintro e w6 ⟨rfl, hw6⟩; subst w6
          clear R1
          go_wp2_with fail
          refine R2.mono ?_
          rintro e w6 ⟨rfl, hw6⟩; subst w6
          clear R2
          go_wp2_with fail
          refine (HU1.out _).mono ?_
          rintro e w6 ⟨rfl, hw6⟩; subst w6
          go_wp2_with fail
          refine (HU2.out _).mono ?_
          rintro e w6 ⟨rfl, hw6⟩; subst w6
          go_wp2_with fail
          go_ret
          exact ⟨by simp, below_drewN BE.out nq⟩
        · obtain ⟨cb, hcb, hc2⟩ := HB2.out m2
          have q2' : ((K2 : Int) == 1) = false := by simp; omega
          have n2' : (cb != 0) = true := by simp; exact hcb
          clear HB1 HB2
          go_wp2_with fail
          refine R1.mono ?_
          rintro e w6 ⟨rfl, hw6⟩; subst w6
          clear R1
          go_wp2_with fail
          refine R2.mono ?_
          rintro e w6 ⟨rfl, hw6⟩; subst w6
          clear R2
          go_wp2_with fail
          refine (HU1.out _).mono ?_
          rintro e w6 ⟨rfl, hw6⟩; subst w6
          go_wp2_with fail
          refine (HU2.out _).mono ?_
          rintro e w6 ⟨rfl, hw6⟩; subst w6
          go_wp2_with fail
          go_ret
          exact ⟨by simp, below_drewN BE.out nq⟩
    · go_enter Try.func3, Try.ntmps3
      go_wp2_with fail
      refine hz.mono ?_
      rintro e wz ⟨rfl, hwz⟩; subst wz
      clear hz
      go_wp2_with fail
      go_ret
      exact ⟨rfl, Below.refl _ _⟩
  · rw [decide_eq_false c0] at hz
    go_enter Try.func3, Try.ntmps3
    go_wp2_with fail
    refine hz.mono ?_
    rintro e wz ⟨rfl, hwz⟩; subst wz
    clear hz
    go_wp2_with fail
    go_ret
    exact ⟨rfl, Below.refl _ _⟩

#print axioms law
end Go.Proofs.Qxb6604761a
