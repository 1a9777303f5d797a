/-
  SEAT b6604373a. A LIST OF ROWS OF BYTES ('Lists'); the bounds on the lengths (22, 25); zzCloneList (23).
-/
import Derived.Test.Qxb6604373aPay
import Derived.Test.Qxb6604373aLaw1
namespace Go.Proofs.Qxb6604373a
open Go.RowKit
set_option linter.unusedVariables false

/-- It answers some bool. -/
def SomeBool (e : Ending) : Prop := ∃ b, e = .returned (.bool b)
theorem SomeBool.mk (b : Bool) : SomeBool (.returned (.bool b)) := ⟨b, rfl⟩

structure Item where
  ao : Option Addr
  g : Nat
  o : Nat
  n : Nat
  cap : Nat
  l : List UInt8

/-- WHAT A READER IS TOLD OF A LIST OF ROWS OF BYTES. -/
structure Lists (w : World) (ao : Option Addr) (g o n : Nat) (D : Nat → Item) : Prop where
  addr : 0 < n → ao = some ⟨g, o, none⟩
  cell : ∀ j, j < n → w.cell? ⟨g, o + j, none⟩ = some (.slice (D j).ao (D j).n (D j).cap)
  item : ∀ j, j < n → Bytes w (D j).ao (D j).g (D j).o (D j).n (D j).l
  bare : ∀ j, j < n → (D j).ao = none → (D j).cap = 0

theorem Bytes.own_bare {w : World} {B n : Nat} {ao : Option Addr} {cap : Nat} {xs : List Value} (h : w.ownsRow B 5 1 (.slice ao n cap) n xs) : ao = none → cap = 0 := by
  intro e
  subst e
  rcases h.2 with ⟨h, _⟩ | ⟨g, c, cur, h, _⟩
  · injection h
  · injection h with h1 _ _; cases h1

theorem Lists.lt {w : World} {ao : Option Addr} {g o n : Nat} {D : Nat → Item} (h : Lists w ao g o n D) (hn : 0 < n) : g < w.heap.size :=
  World.block_lt_of_cell? w ⟨g, o + 0, none⟩ (h.cell 0 hn)

theorem Lists.below {B : Nat} {w w' : World} {ao : Option Addr} {g o n : Nat} {D : Nat → Item} (h : Lists w ao g o n D) (hb : Below B w w') (hB : w.heap.size ≤ B) : Lists w' ao g o n D :=
  ⟨h.addr, fun j hj => (hb.cell (p := ⟨g, o + j, none⟩) (by have := h.lt (by omega); show g < B; omega)).trans (h.cell j hj), fun j hj => (h.item j hj).below hb (fun hn => by have := (h.item j hj).lt hn; omega), h.bare⟩

theorem Lists.drewN {w : World} {ao : Option Addr} {g o n : Nat} {D : Nat → Item} (h : Lists w ao g o n D) (m : Nat) : Lists (w.drewN m) ao g o n D :=
  ⟨h.addr, h.cell, fun j hj => (h.item j hj).drewN m, h.bare⟩

/-- The sum of the first k lengths. -/
def sumN (D : Nat → Item) : Nat → Nat
  | 0 => 0
  | k + 1 => sumN D k + (D k).n

theorem sumN_mono (D : Nat → Item) : ∀ k m, k ≤ m → sumN D k ≤ sumN D m
  | k, 0, h => by obtain rfl : k = 0 := by omega
                  exact Nat.le_refl _
  | k, m + 1, h => by
    by_cases hk : k ≤ m
    · have := sumN_mono D k m hk; show sumN D k ≤ sumN D m + (D m).n; omega
    · obtain rfl : k = m + 1 := by omega
      exact Nat.le_refl _

theorem sumN_congr (D D' : Nat → Item) : ∀ k, (∀ j, j < k → (D' j).n = (D j).n) → sumN D' k = sumN D k
  | 0, _ => rfl
  | k + 1, h => by show sumN D' k + (D' k).n = sumN D k + (D k).n; rw [sumN_congr D D' k (fun j hj => h j (by omega)), h k (by omega)]

set_option maxHeartbeats 1000000 in
set_option maxRecDepth 100000 in
theorem zb2_any (a0 a1 : Value) (ao : Option Addr) (g o n c : Nat) (D : Nat → Item) (ao3 : Option Addr) (n3 c3 : Nat) (w : World) (hL : Lists w ao g o n D) (hn : n ≤ 9223372036854775807) (hD : ∀ j, j < n → (D j).n ≤ 9223372036854775807) (h3 : n3 ≤ 9223372036854775807) :
    Calls Try.prog 22 #[a0, a1, .slice ao n c, .slice ao3 n3 c3] w fun e w' => SomeBool e ∧ w' = w := by
  have HL : Hid (Lists w ao g o n D) := hL
  have HD : Hid (∀ j, j < n → (D j).n ≤ 9223372036854775807) := hD
  clear hL hD
  by_cases c1 : n ≤ 1048576
  · go_enter Try.func22, Try.ntmps22
    go_wp2
    go_loop [9, 10] (fun vz vi => ∃ k z : Nat, k ≤ n ∧ vi = .int .i64 k ∧ vz = .int .i64 z ∧ z ≤ 1048576) (fun _ vi => n - (intOf vi).toNat)
    case atStart => exact ⟨0, n, by omega, rfl, rfl, by omega⟩
    case round =>
      obtain ⟨k, z, hk, rfl, rfl, hz⟩ := hrel
      by_cases hlt : k < n
      · have hl := HL.out
        obtain rfl := hl.addr (by omega)
        have hc := hl.cell k hlt
        have hdk := HD.out k hlt
        clear hl
        by_cases d1 : (D k).n ≤ 1048576
        · by_cases d2 : z + (D k).n ≤ 1048576
          · go_wp2
            go_round
            case rel => exact ⟨k + 1, z + (D k).n, by omega, by go_num, by go_num, by omega⟩
            case measure => simp [intOf]; omega
          · go_wp2
            go_ret
            exact ⟨SomeBool.mk _, rfl⟩
        · go_wp2
          go_ret
          exact ⟨SomeBool.mk _, rfl⟩
      · by_cases d1 : n3 ≤ 1048576
        · by_cases d2 : z + n3 ≤ 1048576
          · go_wp2
            go_ret
            exact ⟨SomeBool.mk _, rfl⟩
          · go_wp2
            go_ret
            exact ⟨SomeBool.mk _, rfl⟩
        · go_wp2
          go_ret
          exact ⟨SomeBool.mk _, rfl⟩
  · go_enter Try.func22, Try.ntmps22
    go_wp2
    go_ret
    exact ⟨SomeBool.mk _, rfl⟩

set_option maxHeartbeats 1000000 in
set_option maxRecDepth 100000 in
theorem zb3_any (a0 a1 : Value) (ao : Option Addr) (g o n c : Nat) (D : Nat → Item) (ao3 : Option Addr) (n3 c3 : Nat) (w : World) (hL : Lists w ao g o n D) (hn : n ≤ 9223372036854775807) (hD : ∀ j, j < n → (D j).n ≤ 9223372036854775807) (h3 : n3 ≤ 9223372036854775807) :
    Calls Try.prog 25 #[a0, a1, .slice ao n c, .slice ao3 n3 c3] w fun e w' => SomeBool e ∧ w' = w := by
  have HL : Hid (Lists w ao g o n D) := hL
  have HD : Hid (∀ j, j < n → (D j).n ≤ 9223372036854775807) := hD
  clear hL hD
  by_cases c1 : n ≤ 1048576
  · go_enter Try.func25, Try.ntmps25
    go_wp2
    go_loop [9, 10] (fun vz vi => ∃ k z : Nat, k ≤ n ∧ vi = .int .i64 k ∧ vz = .int .i64 z ∧ z ≤ 1048576) (fun _ vi => n - (intOf vi).toNat)
    case atStart => exact ⟨0, n, by omega, rfl, rfl, by omega⟩
    case round =>
      obtain ⟨k, z, hk, rfl, rfl, hz⟩ := hrel
      by_cases hlt : k < n
      · have hl := HL.out
        obtain rfl := hl.addr (by omega)
        have hc := hl.cell k hlt
        have hdk := HD.out k hlt
        clear hl
        by_cases d1 : (D k).n ≤ 1048576
        · by_cases d2 : z + (D k).n ≤ 1048576
          · go_wp2
            go_round
            case rel => exact ⟨k + 1, z + (D k).n, by omega, by go_num, by go_num, by omega⟩
            case measure => simp [intOf]; omega
          · go_wp2
            go_ret
            exact ⟨SomeBool.mk _, rfl⟩
        · go_wp2
          go_ret
          exact ⟨SomeBool.mk _, rfl⟩
      · by_cases d1 : n3 ≤ 1048576
        · by_cases d2 : z + n3 ≤ 1048576
          · go_wp2
            go_ret
            exact ⟨SomeBool.mk _, rfl⟩
          · go_wp2
            go_ret
            exact ⟨SomeBool.mk _, rfl⟩
        · go_wp2
          go_ret
          exact ⟨SomeBool.mk _, rfl⟩
  · go_enter Try.func25, Try.ntmps25
    go_wp2
    go_ret
    exact ⟨SomeBool.mk _, rfl⟩

theorem eqlNil39 (w : World) (a : Option Addr) (n c n' c' : Nat) : (binOp .eql 39 (.slice a n c) (.slice none n' c')).run Try.prog w = .ok (.bool a.isNone) w :=
  Lib.run_eql_slice_nil w _ _ a n c n' c' Try.underlying39

theorem Try.info32 : (Try.prog.info? 32).map (fun i => (i.zero, i.size, i.bytes)) = some (some (.slice none 0 0), 1, 24) := by kernel_rfl

/-- WHAT THE CLONE HAS LAID AFTER k ROUNDS: the table at block B, and the first k rows, each of the call's own, behind B. -/
structure Half (w : World) (B n k : Nat) (D D' : Nat → Item) (wr : World) : Prop where
  tbl : ∃ cur, wr.heap[B]? = some (.cells cur 32 (0, 0)) ∧ cur.size = n ∧ ∀ j, j < k → cur[j]? = some (.slice (D' j).ao (D' j).n (D' j).cap)
  row : ∀ j, j < k → Bytes wr (D' j).ao (D' j).g (D' j).o (D' j).n (D' j).l ∧ (0 < (D' j).n → B < (D' j).g) ∧ (D' j).n = (D j).n ∧ (D' j).l = (D j).l ∧ ((D' j).ao = none → (D' j).cap = 0)
  below : Below B w wr
  lt : B < wr.heap.size

/-- One row more. -/
theorem Half.step {w : World} {B n k : Nat} {D D' : Nat → Item} {wr w2 : World} (h : Half w B n k D D' wr) (hk : k < n) {v : Value} (ho : w2.ownsRow wr.heap.size 5 1 v (D k).n (Lib.byteCells (D k).l)) (hb : Below wr.heap.size wr w2) (hBw : B = w.heap.size) :
    ∃ d : Item, Half w B n (k + 1) D (fun j => if j = k then d else D' j) (w2.setCell ⟨B, k, none⟩ v) := by
  obtain ⟨ao, g, cap, rfl, hy, hlo, _⟩ := Bytes.own ho
  have hnc := Bytes.own_bare ho
  obtain ⟨cur, h1, h2, h3⟩ := h.tbl
  have h1' : w2.heap[B]? = some (.cells cur 32 (0, 0)) := by rw [hb.block B h.lt]; exact h1
  refine ⟨⟨ao, g, 0, (D k).n, cap, (D k).l⟩, ⟨⟨cur.setIfInBounds k (.slice ao (D k).n cap), heap_setCell_same w2 B k cur 32 _ h1', by simpa using h2, fun j hj => ?_⟩, fun j hj => ?_, ?_, ?_⟩⟩
  · by_cases e : j = k
    · subst e
      simp [h2, hk]
    · rw [if_neg e, Array.getElem?_setIfInBounds_ne (by omega)]
      exact h3 j (by omega)
  · by_cases e : j = k
    · subst e
      simp only [if_true]
      refine ⟨hy.carry fun hn => ?_, fun hn => ?_, trivial, trivial, hnc⟩
      · rw [Below.heap_setCell _ _ _ _ (by have := hlo hn; have := h.lt; show g ≠ B; omega)]
      · have := hlo hn; have := h.lt; omega
    · simp only [if_neg e]
      obtain ⟨r1, r2, r3⟩ := h.row j (by omega)
      refine ⟨(r1.below hb (fun hn => r1.lt hn)).carry fun hn => ?_, r2, r3⟩
      rw [Below.heap_setCell _ _ _ _ (by have := r2 hn; show (D' j).g ≠ B; omega)]
  · exact (h.below.trans (hb.mono (Nat.le_of_lt h.lt))).setCell (Nat.le_refl _) _
  · have := h.lt; have := hb.size; simp [World.setCell]; omega

theorem Half.done {w : World} {B n : Nat} {D D' : Nat → Item} {wr : World} (h : Half w B n n D D' wr) : Lists wr (some ⟨B, 0, none⟩) B 0 n D' := by
  obtain ⟨cur, h1, h2, h3⟩ := h.tbl
  refine ⟨fun _ => rfl, fun j hj => ?_, fun j hj => (h.row j hj).1, fun j hj => (h.row j hj).2.2.2.2⟩
  rw [Nat.zero_add, cell_of_row wr B j cur 32 (0, 0) h1]
  exact h3 j hj

/-- D' holds what D holds. -/
def Same (n : Nat) (D D' : Nat → Item) : Prop := ∀ j, j < n → (D' j).n = (D j).n ∧ (D' j).l = (D j).l

set_option maxHeartbeats 1000000 in
set_option maxRecDepth 100000 in
theorem clist_aux (B : Nat) (ad : Addr) (g o n cap : Nat) (D : Nat → Item) (w : World) (HL : Hid (Lists w (some ad) g o n D)) (HW : Hid (B = w.heap.size)) (hn : n ≤ 1048576) (HD : Hid (∀ j, j < n → (D j).n ≤ 1048576)) :
    Calls Try.prog 23 #[.slice (some ad) n cap] w fun e w' => ∃ D', e = .returned (.slice (some ⟨B, 0, none⟩) n n) ∧ Half w B n n D D' w' := by
  have hq := eqlNil39
  obtain ⟨i0, hi, hz0, hz1, hz2⟩ := info_parts Try.info32
  go_enter Try.func23, Try.ntmps23
  go_wp2_with (at_make; refine wpList_make_full _ rfl _ _ 39 rfl w.heap.size 32 i0 (.slice none 0 0) 1 Try.underlying39 hi hz0 hz1 _ _ _ _ n rfl rfl rfl rfl (by rw [hz2]; omega) (by unfold maxLen; omega) (Nat.le_refl _) ?_)
  intro w1 hown1 hgrow1
  rw [← HW.out] at hown1 ⊢
  have H0 : Half w B n 0 D D w1 := by
    refine ⟨?_, fun j hj => absurd hj (by omega), (Below.refl B w).grown hgrow1 (by have := HW.out; omega) (fun k hk => by simp at hk), ?_⟩
    · rcases hown1.2 with ⟨h, _⟩ | ⟨g', cap', cur, h, _, hh, _, _, hs, _⟩
      · cases h
      · simp only [Value.slice.injEq, Option.some.injEq, Addr.mk.injEq, and_true, true_and] at h
        obtain ⟨rfl, rfl⟩ := h
        exact ⟨cur, hh, by omega, fun j hj => absurd hj (by omega)⟩
    · exact (hown1.lt B rfl).2
  clear hown1 hgrow1
  go_wp2
  go_loopw [4] (fun vi wr => ∃ k : Nat, k ≤ n ∧ vi = .int .i64 k ∧ ∃ D', Half w B n k D D' wr) (fun vi _ => n - (intOf vi).toNat)
  case atStart => exact ⟨0, by omega, rfl, D, H0⟩
  case round =>
    obtain ⟨k, hk, rfl, D', hh⟩ := hrel
    clear H0
    by_cases hlt : k < n
    · have hl := HL.out
      obtain rfl := Option.some.inj (hl.addr (by omega))
      have hgB : g < B := by have := hl.lt (by omega); have := HW.out; omega
      have hc : wr.cell? ⟨g, o + k, none⟩ = some (.slice (D k).ao (D k).n (D k).cap) := (hh.below.cell (p := ⟨g, o + k, none⟩) hgB).trans (hl.cell k hlt)
      have hy : Hid (Bytes wr (D k).ao (D k).g (D k).o (D k).n (D k).l) := (hl.item k hlt).below hh.below (fun hn => by have := (hl.item k hlt).lt hn; have := HW.out; omega)
      have hkn : (k : Int) < (n : Int) := by omega
      have hdk := HD.out k hlt
      have HH : Hid (Half w B n k D D' wr) := hh
      clear hl hh
      go_wp2_with fail
      refine (clone_any (D k).ao (D k).g (D k).o (D k).n (D k).cap (D k).l wr hy.out hdk).mono ?_
      rintro e w2 ⟨v, rfl, ho, hb⟩
      obtain ⟨av, gv, cv, rfl, _, _, _⟩ := Bytes.own ho
      obtain ⟨d, HS⟩ := HH.out.step hlt ho hb HW.out
      have hcB : ∃ u, w2.cell? ⟨B, k, none⟩ = some u ∧ w2.frozen? ⟨B, k, none⟩ = false := by
        obtain ⟨cur, h1, h2, h3⟩ := HH.out.tbl
        have h1' : w2.heap[B]? = some (.cells cur 32 (0, 0)) := by rw [hb.block B HH.out.lt]; exact h1
        exact ⟨_, (cell_of_row w2 B k cur 32 (0, 0) h1').trans (Array.getElem?_eq_getElem (by omega)), frozen_of_row w2 B k cur 32 h1'⟩
      obtain ⟨u, hu, hfz⟩ := hcB
      have HS' : Hid (Half w B n (k + 1) D (fun j => if j = k then d else D' j) (w2.setCell ⟨B, k, none⟩ (.slice av (D k).n cv))) := HS
      clear HS ho hb hc hy HH
      go_wp2
      go_roundw
      case rel => exact ⟨k + 1, by omega, by go_num, _, HS'.out⟩
      case measure => simp [intOf]; omega
    · obtain rfl : k = n := by omega
      have HH : Hid (Half w B k k D D' wr) := hh
      clear hh
      go_wp2
      go_ret
      exact ⟨D', rfl, HH.out⟩

theorem clist_any (ao : Option Addr) (g o n cap : Nat) (D : Nat → Item) (w : World) (hL : Lists w ao g o n D) (hn : n ≤ 1048576) (hD : ∀ j, j < n → (D j).n ≤ 1048576) :
    Calls Try.prog 23 #[.slice ao n cap] w fun e w' => ∃ ao' g' cap' D', e = .returned (.slice ao' n cap') ∧ Lists w' ao' g' 0 n D' ∧ Same n D D' ∧ Below w.heap.size w w' := by
  cases ao with
  | none =>
    have hq := eqlNil39
    obtain rfl : n = 0 := by
      rcases Nat.eq_zero_or_pos n with h | h
      · exact h
      · exact absurd (hL.addr h) (by simp)
    clear hL hD
    go_enter Try.func23, Try.ntmps23
    go_wp2
    go_ret
    exact ⟨none, 0, 0, D, rfl, ⟨fun h => absurd h (by omega), fun j hj => absurd hj (by omega), fun j hj => absurd hj (by omega), fun j hj => absurd hj (by omega)⟩, fun j hj => absurd hj (by omega), Below.refl _ _⟩
  | some ad =>
    refine (clist_aux _ ad g o n cap D w hL rfl hn hD).mono ?_
    rintro e w' ⟨D', rfl, hh⟩
    exact ⟨_, _, _, D', rfl, hh.done, fun j hj => ⟨(hh.row j hj).2.2.1, (hh.row j hj).2.2.2.1⟩, hh.below⟩

#print axioms clist_any
end Go.Proofs.Qxb6604373a
