/-
  SEAT b6604761a. AppendVarint (22), signed (19), ZZsigned (8), zzUnzig (11).
-/
import Derived.Test.Qxb6604761aSig
import Derived.OneCell
namespace Go.Proofs.Qxb6604761a
open Go.RowKit
set_option linter.unusedVariables false

theorem xor_i64_comm (a b : Int) : bits .xor .i64 a b = bits .xor .i64 b a := by
  show IntKind.i64.wrap ((BitVec.ofInt 64 a ^^^ BitVec.ofInt 64 b).toNat : Int) = IntKind.i64.wrap ((BitVec.ofInt 64 b ^^^ BitVec.ofInt 64 a).toNat : Int)
  rw [BitVec.xor_comm]

theorem xor_i64_zero (x : Nat) (hx : x < 9223372036854775808) : bits .xor .i64 (x : Int) 0 = (x : Int) := by
  show IntKind.i64.wrap ((BitVec.ofInt 64 (x : Int) ^^^ BitVec.ofInt 64 0).toNat : Int) = _
  have h2 : (BitVec.ofInt 64 (x : Int)).toNat = x := by
    rw [BitVec.ofInt_natCast, BitVec.toNat_ofNat]; exact Nat.mod_eq_of_lt (by omega)
  have h1 : (BitVec.ofInt 64 0).toNat = 0 := by decide
  rw [BitVec.toNat_xor, h1, h2, Nat.xor_zero, IntKind.wrap_i64]
  omega

theorem unzig_law (x : Int) (h0 : -9223372036854775808 ≤ x) (h1 : x ≤ 9223372036854775807) :
    bits .xor .i64 (((Lib.zigzag x : Nat) : Int) / 2) (wrap64 (-wrap64 (bits .and .u64 ((Lib.zigzag x : Nat) : Int) 1))) = x := by
  have hz := Lib.zigzag_lt h0 h1
  rw [Lib.u64_and1 _ (by omega) (by omega)]
  by_cases hx : 0 ≤ x
  · have e : ((Lib.zigzag x : Nat) : Int) = x * 2 := Lib.zigzag_nonneg hx
    rw [e]
    have e1 : wrap64 (-wrap64 (x * 2 % 2)) = 0 := by unfold wrap64; omega
    have e2 : x * 2 / 2 = ((x.toNat : Nat) : Int) := by omega
    rw [e1, e2, xor_i64_zero _ (by omega)]
    omega
  · have e : ((Lib.zigzag x : Nat) : Int) = -2 * x - 1 := by unfold Lib.zigzag; rw [if_neg hx]; omega
    rw [e]
    have e1 : wrap64 (-wrap64 ((-2 * x - 1) % 2)) = -1 := by unfold wrap64; omega
    have e2 : (-2 * x - 1) / 2 = (((-x - 1).toNat : Nat) : Int) := by omega
    rw [e1, e2, xor_i64_comm, Lib.i64_not _ (by omega)]
    omega

theorem unzig_any (x : Int) (h0 : -9223372036854775808 ≤ x) (h1 : x ≤ 9223372036854775807) (w : World) :
    Calls Try.prog 11 #[.int .u64 ((Lib.zigzag x : Nat) : Int)] w fun e w' => e = .returned (.int .i64 x) ∧ w' = w := by
  have hz := Lib.zigzag_lt h0 h1
  have hl := unzig_law x h0 h1
  obtain ⟨z, hzz⟩ : ∃ z, z = Lib.zigzag x := ⟨_, rfl⟩
  rw [← hzz] at hl hz ⊢
  clear hzz
  go_enter Try.func11, Try.ntmps11
  go_wp2
  go_ret
  exact ⟨rfl, rfl⟩

/-- AppendVarint onto a row of the call's own. -/
theorem av_any (B n : Nat) (x : Int) (h0 : -9223372036854775808 ≤ x) (h1 : x ≤ 9223372036854775807) (sv : Value) (xs : List Value) (w : World) (hown : w.ownsRow B 5 1 sv n xs) (hBw : B ≤ w.heap.size) (hlim : n + 10 ≤ 140737488355328) :
    Calls Try.prog 22 #[sv, .int .i64 x] w fun e w' => ∃ v', e = .returned v' ∧ w'.ownsRow B 5 1 v' (n + (Lib.uvarint (Lib.zigzag x)).length) (xs ++ Lib.byteCells (Lib.uvarint (Lib.zigzag x))) ∧ Kept B w w' := by
  have hU := uv_nat B n (Lib.zigzag x) (Lib.zigzag_lt h0 h1) sv xs w hown hBw hlim
  by_cases hneg : x < 0
  · rw [← Lib.zigzag_neg h0 hneg] at hU
    go_enter Try.func22, Try.ntmps22
    go_wp2_with fail
    refine hU.mono ?_
    rintro e w1 ⟨v', rfl, ho, hb⟩
    go_wp2_with fail
    go_ret
    exact ⟨v', rfl, ho, hb⟩
  · rw [Lib.zigzag_nonneg (by omega)] at hU
    go_enter Try.func22, Try.ntmps22
    go_wp2_with fail
    refine hU.mono ?_
    rintro e w1 ⟨v', rfl, ho, hb⟩
    go_wp2_with fail
    go_ret
    exact ⟨v', rfl, ho, hb⟩

/-- .. onto a row without spare room. -/
theorem avf_any (ao : Option Addr) (g o n : Nat) (x : Int) (h0 : -9223372036854775808 ≤ x) (h1 : x ≤ 9223372036854775807) (l : List UInt8) (w : World) (hY : Bytes w ao g o n l) (hlim : n ≤ 1048576) :
    Calls Try.prog 22 #[.slice ao n n, .int .i64 x] w fun e w' => ∃ v', e = .returned v' ∧ w'.ownsRow w.heap.size 5 1 v' (n + (Lib.uvarint (Lib.zigzag x)).length) (Lib.byteCells (l ++ Lib.uvarint (Lib.zigzag x))) ∧ Below w.heap.size w w' := by
  have hU := uvf_aux _ ao g o n (Lib.zigzag x) (Lib.zigzag_lt h0 h1) l w hY rfl hlim
  clear hY
  by_cases hneg : x < 0
  · rw [← Lib.zigzag_neg h0 hneg] at hU
    go_enter Try.func22, Try.ntmps22
    go_wp2_with fail
    refine hU.mono ?_
    rintro e w1 ⟨v', rfl, ho, hb⟩
    go_wp2_with fail
    go_ret
    exact ⟨v', rfl, ho, hb⟩
  · rw [Lib.zigzag_nonneg (by omega)] at hU
    go_enter Try.func22, Try.ntmps22
    go_wp2_with fail
    refine hU.mono ?_
    rintro e w1 ⟨v', rfl, ho, hb⟩
    go_wp2_with fail
    go_ret
    exact ⟨v', rfl, ho, hb⟩

theorem own_ne_box {w : World} {B b n : Nat} {v u : Value} {xs : List Value} (h : w.ownsRow B 5 1 v n xs) (hb : w.heap[b]? = some (.cells #[u] 39 (0, 0))) : v.ownBlock ≠ some b := by
  intro e
  rcases h.2 with ⟨rfl, _⟩ | ⟨g, cap, cur, rfl, _, hg, _⟩
  · simp [Value.ownBlock] at e
  · simp only [Value.ownBlock, Option.some.injEq] at e
    subst e
    rw [hb] at hg
    injection hg with hg
    injection hg with _ h2 _
    exact absurd h2 (by decide)

/-- signed, onto a row of the call's own that lies in a box. -/
theorem sg_own (B b n : Nat) (x : Int) (h0 : -9223372036854775808 ≤ x) (h1 : x ≤ 9223372036854775807) (ao : Option Addr) (cap : Nat) (l : List UInt8) (w : World) (hbx : w.heap[b]? = some (.cells #[.slice ao n cap] 39 (0, 0))) (hBb : B ≤ b)
    (hown : w.ownsRow B 5 1 (.slice ao n cap) n (Lib.byteCells l)) (hBw : B ≤ w.heap.size) (hlim : n ≤ 1048576) :
    Calls Try.prog 19 #[.pointer (some ⟨b, 0, none⟩), .int .i64 x] w fun e w' => ∃ v', e = .returned (.tuple #[]) ∧ w'.heap[b]? = some (.cells #[v'] 39 (0, 0)) ∧ w'.ownsRow B 5 1 v' (n + (Lib.uvarint (Lib.zigzag x)).length) (Lib.byteCells (l ++ Lib.uvarint (Lib.zigzag x))) ∧ Below B w w' := by
  have hc : w.cell? ⟨b, 0, none⟩ = some (.slice ao n cap) := cell_of_row w b 0 _ 39 (0, 0) hbx
  have HBX : Hid (w.heap[b]? = some (.cells #[.slice ao n cap] 39 (0, 0))) := hbx
  clear hbx
  go_enter Try.func19, Try.ntmps19
  go_wp2_with fail
  refine (av_any B n x h0 h1 _ _ w hown hBw (by omega)).mono ?_
  rintro e w1 ⟨v1, rfl, ho1, hk1⟩
  rw [← Lib.byteCells_append] at ho1
  obtain ⟨av, gv, cv, rfl, _, _, _⟩ := Bytes.own ho1
  have hlt : b < w.heap.size := (Array.getElem?_eq_some_iff.1 HBX.out).1
  have hbx1 : w1.heap[b]? = some (.cells #[.slice ao n cap] 39 (0, 0)) := by
    rw [hk1.other b hlt (fun cur fz h => by rw [HBX.out] at h; injection h with h; injection h with _ h2 _; exact absurd h2 (by decide))]
    exact HBX.out
  have hc1 : w1.cell? ⟨b, 0, none⟩ = some (.slice ao n cap) := cell_of_row w1 b 0 _ 39 (0, 0) hbx1
  have hf1 : w1.frozen? ⟨b, 0, none⟩ = false := frozen_of_row w1 b 0 _ 39 hbx1
  have HO2 : Hid ((w1.setCell ⟨b, 0, none⟩ (.slice av (n + (Lib.uvarint (Lib.zigzag x)).length) cv)).ownsRow B 5 1 (.slice av (n + (Lib.uvarint (Lib.zigzag x)).length) cv) (n + (Lib.uvarint (Lib.zigzag x)).length) (Lib.byteCells (l ++ Lib.uvarint (Lib.zigzag x)))) :=
    ownsRow_setCell_other ho1 (own_ne_box ho1 hbx1) _
  have HB2 : Hid ((w1.setCell ⟨b, 0, none⟩ (.slice av (n + (Lib.uvarint (Lib.zigzag x)).length) cv)).heap[b]? = some (.cells #[.slice av (n + (Lib.uvarint (Lib.zigzag x)).length) cv] 39 (0, 0))) := by
    show _ = _
    have h := heap_setCell_same w1 b 0 _ 39 (.slice av (n + (Lib.uvarint (Lib.zigzag x)).length) cv) hbx1
    simpa using h
  have HK : Hid (Below B w (w1.setCell ⟨b, 0, none⟩ (.slice av (n + (Lib.uvarint (Lib.zigzag x)).length) cv))) := hk1.below.setCell hBb _
  clear ho1 hk1 hbx1 hc
  go_wp2_with fail
  go_end0
  exact ⟨_, rfl, HB2.out, HO2.out, HK.out⟩

/-- signed, onto a row without spare room that lies in a box. -/
theorem sg_full (b n : Nat) (x : Int) (h0 : -9223372036854775808 ≤ x) (h1 : x ≤ 9223372036854775807) (ao : Option Addr) (g o : Nat) (l : List UInt8) (w : World) (hbx : w.heap[b]? = some (.cells #[.slice ao n n] 39 (0, 0)))
    (hY : Bytes w ao g o n l) (hlim : n ≤ 1048576) :
    Calls Try.prog 19 #[.pointer (some ⟨b, 0, none⟩), .int .i64 x] w fun e w' => ∃ v', e = .returned (.tuple #[]) ∧ w'.heap[b]? = some (.cells #[v'] 39 (0, 0)) ∧ w'.ownsRow w.heap.size 5 1 v' (n + (Lib.uvarint (Lib.zigzag x)).length) (Lib.byteCells (l ++ Lib.uvarint (Lib.zigzag x))) ∧ Below b w w' := by
  have hc : w.cell? ⟨b, 0, none⟩ = some (.slice ao n n) := cell_of_row w b 0 _ 39 (0, 0) hbx
  have HBX : Hid (w.heap[b]? = some (.cells #[.slice ao n n] 39 (0, 0))) := hbx
  have HYY : Hid (Bytes w ao g o n l) := hY
  clear hbx hY
  go_enter Try.func19, Try.ntmps19
  go_wp2_with fail
  refine (avf_any ao g o n x h0 h1 l w HYY.out hlim).mono ?_
  rintro e w1 ⟨v1, rfl, ho1, hk1⟩
  obtain ⟨av, gv, cv, rfl, _, _, _⟩ := Bytes.own ho1
  have hlt : b < w.heap.size := (Array.getElem?_eq_some_iff.1 HBX.out).1
  have hbx1 : w1.heap[b]? = some (.cells #[.slice ao n n] 39 (0, 0)) := by
    rw [hk1.block b hlt]
    exact HBX.out
  have hc1 : w1.cell? ⟨b, 0, none⟩ = some (.slice ao n n) := cell_of_row w1 b 0 _ 39 (0, 0) hbx1
  have hf1 : w1.frozen? ⟨b, 0, none⟩ = false := frozen_of_row w1 b 0 _ 39 hbx1
  have HO2 : Hid ((w1.setCell ⟨b, 0, none⟩ (.slice av (n + (Lib.uvarint (Lib.zigzag x)).length) cv)).ownsRow w.heap.size 5 1 (.slice av (n + (Lib.uvarint (Lib.zigzag x)).length) cv) (n + (Lib.uvarint (Lib.zigzag x)).length) (Lib.byteCells (l ++ Lib.uvarint (Lib.zigzag x)))) :=
    ownsRow_setCell_other ho1 (own_ne_box ho1 hbx1) _
  have HB2 : Hid ((w1.setCell ⟨b, 0, none⟩ (.slice av (n + (Lib.uvarint (Lib.zigzag x)).length) cv)).heap[b]? = some (.cells #[.slice av (n + (Lib.uvarint (Lib.zigzag x)).length) cv] 39 (0, 0))) := by
    show _ = _
    have h := heap_setCell_same w1 b 0 _ 39 (.slice av (n + (Lib.uvarint (Lib.zigzag x)).length) cv) hbx1
    simpa using h
  have HK : Hid (Below b w (w1.setCell ⟨b, 0, none⟩ (.slice av (n + (Lib.uvarint (Lib.zigzag x)).length) cv))) := (hk1.mono (Nat.le_of_lt hlt)).setCell (Nat.le_refl _) _
  clear ho1 hk1 hbx1 hc
  go_wp2_with fail
  go_end0
  exact ⟨_, rfl, HB2.out, HO2.out, HK.out⟩

theorem zs_own (B n : Nat) (x : Int) (h0 : -9223372036854775808 ≤ x) (h1 : x ≤ 9223372036854775807) (ao : Option Addr) (cap : Nat) (l : List UInt8) (w : World) (hown : w.ownsRow B 5 1 (.slice ao n cap) n (Lib.byteCells l)) (hBw : B ≤ w.heap.size) (hlim : n ≤ 1048576) :
    Calls Try.prog 8 #[.slice ao n cap, .int .i64 x] w fun e w' => ∃ v', e = .returned v' ∧ w'.ownsRow B 5 1 v' (n + (Lib.uvarint (Lib.zigzag x)).length) (Lib.byteCells (l ++ Lib.uvarint (Lib.zigzag x))) ∧ Below B w w' := by
  go_enter Try.func8, Try.ntmps8
  go_wp2_with fail
  refine (sg_own B w.heap.size n x h0 h1 ao cap l _ (heap_alloc_new w _) hBw (hown.alloc _) (by simp; omega) hlim).mono ?_
  rintro e w1 ⟨v1, rfl, hbx, ho, hb⟩
  obtain ⟨av, gv, cv, rfl, _, _, _⟩ := Bytes.own ho
  have hc1 : w1.cell? ⟨w.heap.size, 0, none⟩ = some (.slice av (n + (Lib.uvarint (Lib.zigzag x)).length) cv) := cell_of_row w1 w.heap.size 0 _ 39 (0, 0) hbx
  have HO : Hid (w1.ownsRow B 5 1 (.slice av (n + (Lib.uvarint (Lib.zigzag x)).length) cv) (n + (Lib.uvarint (Lib.zigzag x)).length) (Lib.byteCells (l ++ Lib.uvarint (Lib.zigzag x)))) := ho
  have HK : Hid (Below B w w1) := ((Below.refl B w).alloc hBw _).trans hb
  clear ho hb hbx
  go_wp2_with fail
  go_ret
  exact ⟨_, rfl, HO.out, HK.out⟩

theorem zs_full (n : Nat) (x : Int) (h0 : -9223372036854775808 ≤ x) (h1 : x ≤ 9223372036854775807) (ao : Option Addr) (g o : Nat) (l : List UInt8) (w : World) (hY : Bytes w ao g o n l) (hlim : n ≤ 1048576) :
    Calls Try.prog 8 #[.slice ao n n, .int .i64 x] w fun e w' => ∃ v', e = .returned v' ∧ w'.ownsRow w.heap.size 5 1 v' (n + (Lib.uvarint (Lib.zigzag x)).length) (Lib.byteCells (l ++ Lib.uvarint (Lib.zigzag x))) ∧ Below w.heap.size w w' := by
  go_enter Try.func8, Try.ntmps8
  go_wp2_with fail
  refine (sg_full w.heap.size n x h0 h1 ao g o l _ (heap_alloc_new w _) (hY.below ((Below.refl _ _).alloc (Nat.le_refl _) _) hY.lt) hlim).mono ?_
  rintro e w1 ⟨v1, rfl, hbx, ho0, hb⟩
  have ho := ownsRow_mono' (base' := w.heap.size) ho0 (by simp)
  obtain ⟨av, gv, cv, rfl, _, _, _⟩ := Bytes.own ho
  have hc1 : w1.cell? ⟨w.heap.size, 0, none⟩ = some (.slice av (n + (Lib.uvarint (Lib.zigzag x)).length) cv) := cell_of_row w1 w.heap.size 0 _ 39 (0, 0) hbx
  have HO : Hid (w1.ownsRow w.heap.size 5 1 (.slice av (n + (Lib.uvarint (Lib.zigzag x)).length) cv) (n + (Lib.uvarint (Lib.zigzag x)).length) (Lib.byteCells (l ++ Lib.uvarint (Lib.zigzag x)))) := ho
  have HK : Hid (Below w.heap.size w w1) := ((Below.refl w.heap.size w).alloc (Nat.le_refl _) _).trans hb
  clear ho0 ho hb hbx
  go_wp2_with fail
  go_ret
  exact ⟨_, rfl, HO.out, HK.out⟩

#print axioms zs_full
end Go.Proofs.Qxb6604761a
