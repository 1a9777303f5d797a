/-
  SEAT b6604761a. WHAT AN APPEND ONTO A ROW OF BYTES OF THE CALL's OWN LEAVES ('Kept'), AND binary.AppendUvarint (function 30) WITH THAT FRAME.
-/
import Derived.Test.Qxb6604761aRows
import Derived.WalkKit
import Derived.Lib.VarintMem
namespace Go.Proofs.Qxb6604761a
open Go.RowKit
set_option linter.unusedVariables false

/-- Below block B nothing has turned; and no block that is not a row of bytes (type 5) has turned, wherever it lies. -/
structure Kept (B : Nat) (w w' : World) : Prop where
  below : Below B w w'
  other : ∀ k : Nat, k < w.heap.size → (∀ cur fz, w.heap[k]? ≠ some (.cells cur 5 fz)) → w'.heap[k]? = w.heap[k]?

theorem Kept.refl (B : Nat) (w : World) : Kept B w w := ⟨Below.refl _ _, fun _ _ _ => rfl⟩

theorem Kept.trans {B : Nat} {a b c : World} (h : Kept B a b) (k : Kept B b c) : Kept B a c := by
  refine ⟨h.below.trans k.below, fun i hi hn => ?_⟩
  have e := h.other i hi hn
  rw [k.other i (Nat.lt_of_lt_of_le hi h.below.size) (by rw [e]; exact hn), e]

theorem Kept.mono {B B' : Nat} {w w' : World} (h : Kept B w w') (hB : B' ≤ B) : Kept B' w w' := ⟨h.below.mono hB, h.other⟩

theorem Kept.alloc {B : Nat} {a w : World} (h : Kept B a w) (hB : B ≤ w.heap.size) (o : Obj) : Kept B a (w.alloc o) :=
  h.trans ⟨(Below.refl _ _).alloc hB o, fun k hk _ => Below.heap_alloc _ _ _ hk⟩

theorem Kept.drew {B : Nat} {a w : World} (h : Kept B a w) : Kept B a w.drew := h.trans ⟨(Below.refl _ _).drew, fun _ _ _ => rfl⟩

/-- Behind the append's law. -/
theorem Kept.grown {B : Nat} {a w w' : World} {v : Value} {n : Nat} {xs : List Value} (h : Kept B a w) (hown : w.ownsRow B 5 1 v n xs) (hg : w.grownBy w' v.ownBlock) (hB : B ≤ w.heap.size) : Kept B a w' := by
  refine h.trans ⟨(Below.refl _ _).grown hg hB (fun k hk => (hown.lt k hk).1), fun k hk hn => hg.block k hk (fun e => ?_)⟩
  rcases hown.2 with ⟨rfl, _⟩ | ⟨g, cap, cur, rfl, _, hgg, _⟩
  · simp [Value.ownBlock] at e
  · simp only [Value.ownBlock, Option.some.injEq] at e
    subst e
    exact hn _ _ hgg

theorem Kept.cell {B : Nat} {w w' : World} (h : Kept B w w') {p : Addr} (hp : p.block < w.heap.size) (hn : ∀ cur fz, w.heap[p.block]? ≠ some (.cells cur 5 fz)) : w'.cell? p = w.cell? p :=
  World.cell?_of_block (h.other p.block hp hn)

theorem Try.info5 : (Try.prog.info? 5).map (fun i => (i.zero, i.size, i.bytes)) = some (some (.int .u8 0), 1, 1) := by kernel_rfl

set_option maxHeartbeats 1000000 in
set_option maxRecDepth 100000 in
theorem uv_nat (B n x : Nat) (hx : x < 18446744073709551616) (sv : Value) (xs : List Value) (w : World) (hown : w.ownsRow B 5 1 sv n xs) (hBw : B ≤ w.heap.size) (hlim : n + 10 ≤ 140737488355328) :
    Calls Try.prog 30 #[sv, .int .u64 x] w fun e w' => ∃ v', e = .returned v' ∧ w'.ownsRow B 5 1 v' (n + (Lib.uvarint x).length) (xs ++ Lib.byteCells (Lib.uvarint x)) ∧ Kept B w w' := by
  obtain ⟨i0, hi, hz0, hz1, hz2⟩ := info_parts Try.info5
  have hlen := Lib.uvarint_length64 hx
  go_enter Try.func30, Try.ntmps30
  go_wp2
  go_loopw [0, 1] (fun vb vx wr => ∃ (y : Nat) (pre : List UInt8), vx = .int .u64 y ∧ y ≤ x ∧ Lib.uvarint x = pre ++ Lib.uvarint y ∧ wr.ownsRow B 5 1 vb (n + pre.length) (xs ++ Lib.byteCells pre) ∧ Kept B w wr)
    (fun _ vx _ => (intOf vx).toNat)
  case atStart => exact ⟨x, [], rfl, Nat.le_refl _, rfl, by simpa [Lib.byteCells] using hown, Kept.refl _ _⟩
  case round =>
    obtain ⟨y, pre, rfl, hy, hsplit, hown1, hnx⟩ := hrel
    have hpl : pre.length + (Lib.uvarint y).length ≤ 10 := by
      have h2 := congrArg List.length hsplit
      rw [List.length_append] at h2
      omega
    have hyp := Lib.uvarint_pos y
    have hsz := hnx.below.size
    by_cases h128 : 128 ≤ y
    · have hor : bits .or .u8 ((y : Int) % 256) 128 = ((y % 128 + 128 : Nat) : Int) := by
        rw [Lib.u8_or128_any _ (by omega) (by omega)]
        omega
      go_wp2_with (at_builtin; refine wpList_append_own _ rfl _ _ 22 rfl B 5 i0 (.int .u8 0) 1 1 Try.underlying22 hi hz0 hz1 hz2 rfl (by decide) _ _ _ rfl (hown1.alloc _) ⟨wr.heap.size, 0, none⟩ 1 1 [Value.int .u8 ((y % 128 + 128 : Nat) : Int)] rfl rfl ?c1 ?c2 ?c3 ?c4 ?c5 ?_)
      case c1 =>
        intro j u hj
        match j, hj with
        | 0, hj => simp at hj; subst hj; simp [Addr.add]
      case c2 => intro u hu; simp at hu; subst hu; rfl
      case c3 => unfold maxLen; omega
      case c4 => omega
      case c5 => simp; omega
      intro v' w1 hown' hgrow _
      have hnx1 : Kept B w w1 := (hnx.alloc (by omega) _).grown (hown1.alloc _) hgrow (by simp; omega)
      go_wp2
      go_roundw
      case rel =>
        refine ⟨y / 128, pre ++ [(y % 128 + 128).toUInt8], by go_num, by omega, by rw [hsplit, Lib.uvarint_big h128]; simp, ?_, hnx1⟩
        have ec : ((y % 128 + 128 : Nat) : Int) = (y : Int) % 128 + 128 := by omega
        rw [Lib.byteCells_snoc pre (by omega), List.length_append, List.length_singleton, ← Nat.add_assoc]
        first | exact hown' | (rw [ec] at hown'; exact hown') | (rw [ec]; exact hown')
      case measure => simp [intOf]; omega
    · have hsm : Lib.uvarint y = [y.toUInt8] := Lib.uvarint_small (by omega)
      go_wp2_with (at_builtin; refine wpList_append_own _ rfl _ _ 22 rfl B 5 i0 (.int .u8 0) 1 1 Try.underlying22 hi hz0 hz1 hz2 rfl (by decide) _ _ _ rfl (hown1.alloc _) ⟨wr.heap.size, 0, none⟩ 1 1 [Value.int .u8 (y : Int)] rfl rfl ?d1 ?d2 ?d3 ?d4 ?d5 ?_)
      case d1 =>
        intro j u hj
        match j, hj with
        | 0, hj => simp at hj; subst hj; simp [Addr.add]
      case d2 => intro u hu; simp at hu; subst hu; rfl
      case d3 => unfold maxLen; omega
      case d4 => omega
      case d5 => simp; omega
      intro v' w1 hown' hgrow _
      have hnx1 : Kept B w w1 := (hnx.alloc (by omega) _).grown (hown1.alloc _) hgrow (by simp; omega)
      go_wp2
      go_ret
      refine ⟨v', rfl, ?_, hnx1⟩
      rw [hsplit, hsm, Lib.byteCells_snoc pre (by omega), List.length_append, List.length_singleton, ← Nat.add_assoc]
      exact hown'

theorem uv_any (B n : Nat) (x : Int) (h0 : 0 ≤ x) (h1 : x < 18446744073709551616) (sv : Value) (xs : List Value) (w : World) (hown : w.ownsRow B 5 1 sv n xs) (hBw : B ≤ w.heap.size) (hlim : n + 10 ≤ 140737488355328) :
    Calls Try.prog 30 #[sv, .int .u64 x] w fun e w' => ∃ v', e = .returned v' ∧ w'.ownsRow B 5 1 v' (n + (Lib.uvarint x.toNat).length) (xs ++ Lib.byteCells (Lib.uvarint x.toNat)) ∧ Kept B w w' := by
  have h := uv_nat B n x.toNat (by omega) sv xs w hown hBw hlim
  rwa [show ((x.toNat : Nat) : Int) = x by omega] at h

#print axioms uv_any
end Go.Proofs.Qxb6604761a
