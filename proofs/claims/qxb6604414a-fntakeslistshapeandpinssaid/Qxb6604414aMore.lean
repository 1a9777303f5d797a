/-
  SEAT b6604414a. ROWS OF STRINGS OF THE CALL's OWN ('SRow'); the bounds (15, 21); zzJB1With (16), zzJB1Without (17), zzJB1SharedFlag (19).
-/
import Derived.Test.Qxb6604414aTakes
import Derived.Laws.CopyOwn
namespace Go.Proofs.Qxb6604414a
open Go.RowKit
set_option linter.unusedVariables false

theorem neqNil22 (w : World) (a : Option Addr) (n c n' c' : Nat) : (binOp .neq 22 (.slice a n c) (.slice none n' c')).run Try.prog w = .ok (.bool (!a.isNone)) w :=
  run_neq_slice_nil_any w _ _ a n c n' c' Try.underlying22

/-- A block of c strings that the call laid at B; its first k hold S. -/
def SRow (w : World) (B c k : Nat) (S : Nat → ByteArray) : Prop :=
  ∃ cur, w.heap[B]? = some (.cells cur 9 (0, 0)) ∧ cur.size = c ∧ ∀ j, j < k → cur[j]? = some (.string (S j))

theorem SRow.lt {w : World} {B c k : Nat} {S : Nat → ByteArray} (h : SRow w B c k S) : B < w.heap.size := by
  obtain ⟨cur, h1, _⟩ := h
  exact (Array.getElem?_eq_some_iff.1 h1).1

theorem SRow.got {w : World} {B c k : Nat} {S : Nat → ByteArray} (h : SRow w B c k S) (i : Nat) (hi : i < c) : ∃ u, w.cell? ⟨B, i, none⟩ = some u ∧ w.frozen? ⟨B, i, none⟩ = false := by
  obtain ⟨cur, h1, h2, h3⟩ := h
  exact ⟨_, (cell_of_row w B i cur 9 (0, 0) h1).trans (Array.getElem?_eq_getElem (by omega)), frozen_of_row w B i cur 9 h1⟩

theorem SRow.step {w : World} {B c k : Nat} {S : Nat → ByteArray} (h : SRow w B c k S) (hk : k < c) : SRow (w.setCell ⟨B, k, none⟩ (.string (S k))) B c (k + 1) S := by
  obtain ⟨cur, h1, h2, h3⟩ := h
  refine ⟨_, heap_setCell_same w B k cur 9 _ h1, by simpa using h2, fun j hj => ?_⟩
  by_cases e : j = k
  · subst e
    rw [Array.getElem?_setIfInBounds_self_of_lt (by omega)]
  · rw [Array.getElem?_setIfInBounds_ne (by omega)]
    exact h3 j (by omega)

theorem SRow.strs {w : World} {B c k : Nat} {S : Nat → ByteArray} (h : SRow w B c k S) : Strs w (some ⟨B, 0, none⟩) B 0 k S := by
  obtain ⟨cur, h1, h2, h3⟩ := h
  refine ⟨fun _ => rfl, fun j hj => ?_⟩
  rw [Nat.zero_add, cell_of_row w B j cur 9 (0, 0) h1]
  exact h3 j hj

theorem SRow.made {w : World} {B n : Nat} {xs : List Value} (S : Nat → ByteArray) (h : w.ownsRow B 9 1 (.slice (some ⟨B, 0, none⟩) n n) n xs) : SRow w B n 0 S := by
  rcases h.2 with ⟨h, _⟩ | ⟨g', cap', cur, h, _, hh, _, _, hs, _⟩
  · cases h
  · simp only [Value.slice.injEq, Option.some.injEq, Addr.mk.injEq, and_true, true_and] at h
    obtain ⟨rfl, rfl⟩ := h
    exact ⟨cur, hh, by omega, fun j hj => absurd hj (by omega)⟩

theorem Try.info9 : (Try.prog.info? 9).map (fun i => (i.zero, i.size, i.bytes)) = some (some (.string ⟨#[]⟩), 1, 16) := by kernel_rfl

set_option maxHeartbeats 1000000 in
set_option maxRecDepth 100000 in
theorem zb15_any (ao : Option Addr) (g o n c : Nat) (K : Nat → ByteArray) (v1 v2 : Value) (x : ByteArray) (w : World) (hK : Strs w ao g o n K) :
    Calls Try.prog 15 #[.slice ao n c, v1, v2, .string x] w fun e w' => BoolThen e True ∧ w' = w := by
  have HK : Hid (Strs w ao g o n K) := hK
  clear hK
  by_cases c1 : n ≤ 1048576
  · go_enter Try.func15, Try.ntmps15
    go_wp2
    go_loop [9, 10] (fun vz vi => ∃ k z : Nat, k ≤ n ∧ vi = .int .i64 k ∧ vz = .int .i64 z ∧ z ≤ 1048576) (fun _ vi => n - (intOf vi).toNat)
    case atStart => exact ⟨0, n, by omega, rfl, rfl, by omega⟩
    case round =>
      obtain ⟨k, z, hk, rfl, rfl, hz⟩ := hrel
      by_cases hlt : k < n
      · have hl := HK.out
        obtain rfl := hl.addr (by omega)
        have hc := hl.cell k hlt
        clear hl
        by_cases d1 : (K k).size ≤ 1048576
        · by_cases d2 : z + (K k).size ≤ 1048576
          · go_wp2
            go_round
            case rel => exact ⟨k + 1, z + (K k).size, by omega, by go_num, by go_num, by omega⟩
            case measure => simp [intOf]; omega
          · go_wp2
            go_ret
            exact ⟨BoolThen.no _, rfl⟩
        · go_wp2
          go_ret
          exact ⟨BoolThen.no _, rfl⟩
      · by_cases d1 : x.size ≤ 1048576
        · by_cases d2 : z + x.size ≤ 1048576
          · go_wp2
            go_ret
            exact ⟨BoolThen.yes trivial, rfl⟩
          · go_wp2
            go_ret
            exact ⟨BoolThen.no _, rfl⟩
        · go_wp2
          go_ret
          exact ⟨BoolThen.no _, rfl⟩
  · go_enter Try.func15, Try.ntmps15
    go_wp2
    go_ret
    exact ⟨BoolThen.no _, rfl⟩

/-- list and, behind it, x. -/
def withS (n : Nat) (S : Nat → ByteArray) (x : ByteArray) (j : Nat) : ByteArray := if j < n then S j else x

theorem withS_has (n : Nat) (S : Nat → ByteArray) (x : ByteArray) : hasB (withS n S x) x (n + 1) = true :=
  hasB_hit _ _ _ (by unfold withS; rw [if_neg (by omega)]; simp)

set_option maxHeartbeats 1000000 in
set_option maxRecDepth 100000 in
theorem with_aux (B : Nat) (ao : Option Addr) (g o n c : Nat) (S : Nat → ByteArray) (x : ByteArray) (w : World) (HS : Hid (Strs w ao g o n S)) (HW : Hid (B = w.heap.size)) (hn : n ≤ 65536) :
    Calls Try.prog 16 #[.slice ao n c, .string x] w fun e w' => e = .returned (.slice (some ⟨B, 0, none⟩) (n + 1) (n + 1)) ∧ SRow w' B (n + 1) (n + 1) (withS n S x) ∧ Below B w w' := by
  obtain ⟨i0, hi, hz0, hz1, hz2⟩ := info_parts Try.info9
  go_enter Try.func16, Try.ntmps16
  go_wp2_with (at_make; refine wpList_make_full _ rfl _ _ 22 rfl w.heap.size 9 i0 (.string ⟨#[]⟩) 1 Try.underlying22 hi hz0 hz1 _ _ _ _ (n + 1) rfl rfl (by omega) (by omega) (by rw [hz2]; omega) (by unfold maxLen; omega) (Nat.le_refl _) ?_)
  intro w1 hown1 hgrow1
  rw [← HW.out] at hown1 ⊢
  have H0 : Hid (SRow w1 B (n + 1) 0 (withS n S x)) := SRow.made _ hown1
  have hbel1 : Below B w w1 := (Below.refl B w).grown hgrow1 (by have := HW.out; omega) (fun k hk => by simp at hk)
  clear hown1 hgrow1
  go_wp2_with fail
  go_loopw [6] (fun vi wr => ∃ k : Nat, k ≤ n ∧ vi = .int .i64 k ∧ Hid (SRow wr B (n + 1) k (withS n S x)) ∧ Hid (Below B w wr)) (fun vi _ => n - (intOf vi).toNat)
  case atStart => exact ⟨0, by omega, rfl, H0, hbel1⟩
  case round =>
    obtain ⟨k, hk, rfl, HH, HBL⟩ := hrel
    clear H0 hbel1
    obtain ⟨u0, hu0, hf0⟩ := HH.out.got k (by omega)
    by_cases hlt : k < n
    · have hS := HS.out
      obtain rfl := hS.addr (by omega)
      have hc1 : wr.cell? ⟨g, o + k, none⟩ = some (.string (S k)) := (HBL.out.cell (p := ⟨g, o + k, none⟩) (by have := hS.lt (by omega); have := HW.out; show g < B; omega)).trans (hS.cell k hlt)
      have hkn : (k : Int) < (n : Int) := by omega
      have HX : Hid (SRow (wr.setCell ⟨B, k, none⟩ (.string (S k))) B (n + 1) (k + 1) (withS n S x)) := by
        have h := HH.out.step (by omega)
        have e : withS n S x k = S k := by unfold withS; rw [if_pos hlt]
        rwa [e] at h
      clear hS
      go_wp2_with fail
      go_roundw
      case rel => exact ⟨k + 1, by omega, by go_num, HX, HBL.out.setCell (Nat.le_refl _) _⟩
      case measure => simp [intOf]; omega
    · obtain rfl : k = n := by omega
      have HX : Hid (SRow (wr.setCell ⟨B, k, none⟩ (.string x)) B (k + 1) (k + 1) (withS k S x)) := by
        have h := HH.out.step (by omega)
        have e : withS k S x k = x := by unfold withS; rw [if_neg (by omega)]
        rwa [e] at h
      go_wp2_with fail
      go_ret
      exact ⟨rfl, HX.out, HBL.out.setCell (Nat.le_refl _) _⟩

/-- zzJB1Without: none of what is left is x. -/
def strCells (L : List ByteArray) : List Value := L.map Value.string
theorem strCells_snoc (L : List ByteArray) (a : ByteArray) : strCells (L ++ [a]) = strCells L ++ [.string a] := by simp [strCells]

def lacks (L : List ByteArray) (x : ByteArray) : Prop := ∀ y ∈ L, (x.toList == y.toList) = false

theorem lacks_nil (x : ByteArray) : lacks [] x := fun y hy => by cases hy

theorem lacks_has (L : List ByteArray) (x : ByteArray) (h : lacks L x) : ∀ k, k ≤ L.length → hasB (fun j => L.getD j x) x k = false
  | 0, _ => rfl
  | k + 1, hk => hasB_step _ _ _ (lacks_has L x h k (by omega)) (by
      have e : L.getD k x = L[k]'(by omega) := by simp [List.getD, show k < L.length by omega]
      rw [e]; exact h _ (List.getElem_mem _))

theorem strs_own {w : World} {B : Nat} {v : Value} {L : List ByteArray} (x : ByteArray) (h : w.ownsRow B 9 1 v L.length (strCells L)) : ∃ ao g cap, v = .slice ao L.length cap ∧ Strs w ao g 0 L.length (fun j => L.getD j x) := by
  rcases h.2 with ⟨rfl, h0⟩ | ⟨g, cap, cur, rfl, hB, hg, hnc, _⟩
  · rw [h0]
    exact ⟨none, 0, 0, rfl, fun h => absurd h (by omega), fun j hj => absurd hj (by omega)⟩
  · refine ⟨_, g, cap, rfl, fun _ => rfl, fun j hj => ?_⟩
    rw [Nat.zero_add, h.cellAt j (by omega)]
    simp [strCells, List.getD, hj]

set_option maxHeartbeats 2000000 in
set_option maxRecDepth 100000 in
theorem without_aux (B : Nat) (ao : Option Addr) (g o n c : Nat) (S : Nat → ByteArray) (x : ByteArray) (w : World) (HS : Hid (Strs w ao g o n S)) (HW : Hid (B = w.heap.size)) (hn : n ≤ 65536) :
    Calls Try.prog 17 #[.slice ao n c, .string x] w fun e w' => ∃ v L, e = .returned v ∧ w'.ownsRow B 9 1 v L.length (strCells L) ∧ lacks L x ∧ L.length ≤ n ∧ Below B w w' := by
  obtain ⟨i0, hi, hz0, hz1, hz2⟩ := info_parts Try.info9
  go_enter Try.func17, Try.ntmps17
  go_wp2_with (at_make; refine wpList_make_own _ rfl _ _ 22 rfl w.heap.size 9 i0 (.string ⟨#[]⟩) 1 Try.underlying22 hi hz0 hz1 _ _ _ n rfl rfl rfl (by rw [hz2]; omega) (by unfold maxLen; omega) (Nat.le_refl _) ?_)
  intro w1 hown1 hgrow1
  rw [← HW.out] at hown1 ⊢
  have H0 : Hid (w1.ownsRow B 9 1 (.slice (some ⟨B, 0, none⟩) 0 n) 0 (strCells [])) := hown1
  have hbel1 : Below B w w1 := (Below.refl B w).grown hgrow1 (by have := HW.out; omega) (fun k hk => by simp at hk)
  clear hown1 hgrow1
  go_wp2_with fail
  go_loopw [5, 6] (fun vb vi wr => ∃ (k : Nat) (L : List ByteArray), k ≤ n ∧ vi = .int .i64 k ∧ L.length ≤ k ∧ Hid (wr.ownsRow B 9 1 vb L.length (strCells L)) ∧ Hid (lacks L x) ∧ Hid (Below B w wr)) (fun _ vi _ => n - (intOf vi).toNat)
  case atStart => exact ⟨0, [], by omega, rfl, by simp, H0, lacks_nil x, hbel1⟩
  case round =>
    obtain ⟨k, L, hk, rfl, hL, HO, HLK, HBL⟩ := hrel
    clear H0 hbel1
    by_cases hlt : k < n
    · have hS := HS.out
      obtain rfl := hS.addr (by omega)
      have hc1 : wr.cell? ⟨g, o + k, none⟩ = some (.string (S k)) := (HBL.out.cell (p := ⟨g, o + k, none⟩) (by have := hS.lt (by omega); have := HW.out; show g < B; omega)).trans (hS.cell k hlt)
      have hkn : (k : Int) < (n : Int) := by omega
      have hzz := HBL.out.size
      have hBr : B ≤ wr.heap.size := by have := HW.out; omega
      clear hS
      cases he : ((S k).toList == x.toList) with
      | true =>
        go_wp2_with fail
        go_roundw
        case rel => exact ⟨k + 1, L, by omega, by go_num, by omega, HO, HLK, HBL⟩
        case measure => simp [intOf]; omega
      | false =>
        have HL2 : Hid (lacks (L ++ [S k]) x) := by
          intro y hy
          rcases List.mem_append.1 hy with h | h
          · exact HLK.out y h
          · rw [List.mem_singleton.1 h, eqs_symm]; exact he
        go_wp2_with (at_builtin; refine wpList_append_own _ rfl _ _ 22 rfl B 9 i0 (.string ⟨#[]⟩) 1 16 Try.underlying22 hi hz0 hz1 hz2 rfl (by decide) _ _ _ rfl (HO.out.alloc _) ⟨wr.heap.size, 0, none⟩ 1 1 [.string (S k)] rfl rfl ?c1 ?c2 ?c3 ?c4 ?c5 ?_)
        case c1 =>
          intro j u hj
          match j, hj with
          | 0, hj => simp at hj; subst hj; simp [Addr.add]
        case c2 => intro u hu; simp at hu; subst hu; rfl
        case c3 => unfold maxLen; omega
        case c4 => omega
        case c5 => simp; omega
        intro v' w2 hown' hgrow _
        have HB2 : Hid (Below B w w2) := (HBL.out.alloc hBr _).grown hgrow (by simp; omega) (fun q hq => (HO.out.lt q hq).1)
        have HO2 : Hid (w2.ownsRow B 9 1 v' (L ++ [S k]).length (strCells (L ++ [S k]))) := by
          show World.ownsRow _ _ _ _ _ _ _
          rw [strCells_snoc, List.length_append, List.length_singleton]; exact hown'
        clear hown' hgrow
        go_wp2_with fail
        go_roundw
        case rel => exact ⟨k + 1, L ++ [S k], by omega, by go_num, by rw [List.length_append]; simp; omega, HO2, HL2, HB2⟩
        case measure => simp [intOf]; omega
    · go_wp2_with fail
      go_ret
      exact ⟨_, L, rfl, HO.out, HLK.out, by omega, HBL.out⟩

/-! zzJB1SharedFlag, by the kinds of names. -/
set_option maxRecDepth 100000 in
theorem flag_T (hj hr : Bool) (x : ByteArray) (w : World) (hT : isT x = true) : Calls Try.prog 19 #[.string x, .bool hj, .bool hr] w fun e w' => e = .returned (.tuple #[.bool true, .bool hj]) ∧ w' = w := by
  unfold isT at hT
  go_enter Try.func19, Try.ntmps19
  go_wp2
  go_ret2
  exact ⟨rfl, rfl⟩
set_option maxRecDepth 100000 in
theorem flag_P (hj hr : Bool) (x : ByteArray) (w : World) (hT : isT x = false) (hP : isP x = true) : Calls Try.prog 19 #[.string x, .bool hj, .bool hr] w fun e w' => e = .returned (.tuple #[.bool true, .bool hr]) ∧ w' = w := by
  unfold isT at hT
  unfold isP at hP
  go_enter Try.func19, Try.ntmps19
  go_wp2
  go_ret2
  exact ⟨rfl, rfl⟩
set_option maxRecDepth 100000 in
theorem flag_X (hj hr : Bool) (x : ByteArray) (w : World) (hT : isT x = false) (hP : isP x = false) (hX : isX x = true) : Calls Try.prog 19 #[.string x, .bool hj, .bool hr] w fun e w' => e = .returned (.tuple #[.bool true, .bool hr]) ∧ w' = w := by
  unfold isT at hT
  unfold isP at hP
  unfold isX at hX
  go_enter Try.func19, Try.ntmps19
  go_wp2
  go_ret2
  exact ⟨rfl, rfl⟩
set_option maxRecDepth 100000 in
theorem flag_O (hj hr : Bool) (x : ByteArray) (w : World) (hT : isT x = false) (hP : isP x = false) (hX : isX x = false) : Calls Try.prog 19 #[.string x, .bool hj, .bool hr] w fun e w' => e = .returned (.tuple #[.bool false, .bool false]) ∧ w' = w := by
  unfold isT at hT
  unfold isP at hP
  unfold isX at hX
  go_enter Try.func19, Try.ntmps19
  go_wp2
  go_ret2
  exact ⟨rfl, rfl⟩

#print axioms without_aux
end Go.Proofs.Qxb6604414a
