/-
  SEAT b6604414a. zzJB1Reversed (22), zzJB1Twice (23), zzJB1IsShared (24), zzJB1KindFieldName (43), zzJB1WithAllNames (25), zzJB1SharedPins (26).
-/
import Derived.Test.Qxb6604414aMore
namespace Go.Proofs.Qxb6604414a
open Go.RowKit
set_option linter.unusedVariables false

theorem hasB_iff (S : Nat → ByteArray) (x : ByteArray) : ∀ n, hasB S x n = true ↔ ∃ j, j < n ∧ (x.toList == (S j).toList) = true
  | 0 => ⟨fun h => (by cases h), fun ⟨j, hj, _⟩ => absurd hj (by omega)⟩
  | n + 1 => by
    constructor
    · intro h
      cases he : (x.toList == (S n).toList) with
      | true => exact ⟨n, by omega, he⟩
      | false =>
        have h' : hasB S x n = true := by
          have h2 : (hasB S x n || (x.toList == (S n).toList)) = true := h
          rw [he, Bool.or_false] at h2
          exact h2
        obtain ⟨j, hj, e⟩ := (hasB_iff S x n).1 h'
        exact ⟨j, by omega, e⟩
    · rintro ⟨j, hj, e⟩
      exact hasB_mono S x (j + 1) (n + 1) (by omega) (hasB_hit S x j e)

theorem hasB_ext {S S' : Nat → ByteArray} {x : ByteArray} {n n' : Nat} (h1 : ∀ j, j < n → ∃ j', j' < n' ∧ S' j' = S j) (h2 : ∀ j, j < n' → ∃ j', j' < n ∧ S j' = S' j) : hasB S' x n' = hasB S x n := by
  rw [Bool.eq_iff_iff, hasB_iff, hasB_iff]
  constructor
  · rintro ⟨j, hj, e⟩
    obtain ⟨j', hj', e'⟩ := h2 j hj
    exact ⟨j', hj', by rw [e']; exact e⟩
  · rintro ⟨j, hj, e⟩
    obtain ⟨j', hj', e'⟩ := h1 j hj
    exact ⟨j', hj', by rw [e']; exact e⟩

def revS (n : Nat) (S : Nat → ByteArray) (j : Nat) : ByteArray := S (n - 1 - j)
theorem revS_has (n : Nat) (S : Nat → ByteArray) (x : ByteArray) : hasB (revS n S) x n = hasB S x n :=
  hasB_ext (fun j hj => ⟨n - 1 - j, by omega, by unfold revS; rw [show n - 1 - (n - 1 - j) = j by omega]⟩) (fun j hj => ⟨n - 1 - j, by omega, rfl⟩)

def twS (n : Nat) (S : Nat → ByteArray) (j : Nat) : ByteArray := if j < n then S j else S (j - n)
theorem twS_has (n : Nat) (S : Nat → ByteArray) (x : ByteArray) : hasB (twS n S) x (2 * n) = hasB S x n :=
  hasB_ext (fun j hj => ⟨j, by omega, by unfold twS; rw [if_pos hj]⟩) (fun j hj => by
    by_cases h : j < n
    · exact ⟨j, h, by unfold twS; rw [if_pos h]⟩
    · exact ⟨j - n, by omega, by unfold twS; rw [if_neg h]⟩)

set_option maxHeartbeats 1000000 in
set_option maxRecDepth 100000 in
theorem rev_aux (B : Nat) (ao : Option Addr) (g o n c : Nat) (S : Nat → ByteArray) (w : World) (HS : Hid (Strs w ao g o n S)) (HW : Hid (B = w.heap.size)) (hn : n ≤ 65536) :
    Calls Try.prog 22 #[.slice ao n c] w fun e w' => e = .returned (.slice (some ⟨B, 0, none⟩) n n) ∧ SRow w' B n n (revS n S) ∧ Below B w w' := by
  obtain ⟨i0, hi, hz0, hz1, hz2⟩ := info_parts Try.info9
  go_enter Try.func22, Try.ntmps22
  go_wp2_with (at_make; refine wpList_make_full _ rfl _ _ 22 rfl w.heap.size 9 i0 (.string ⟨#[]⟩) 1 Try.underlying22 hi hz0 hz1 _ _ _ _ n rfl rfl rfl rfl (by rw [hz2]; omega) (by unfold maxLen; omega) (Nat.le_refl _) ?_)
  intro w1 hown1 hgrow1
  rw [← HW.out] at hown1 ⊢
  have H0 : Hid (SRow w1 B n 0 (revS n S)) := SRow.made _ hown1
  have hbel1 : Below B w w1 := (Below.refl B w).grown hgrow1 (by have := HW.out; omega) (fun k hk => by simp at hk)
  clear hown1 hgrow1
  go_wp2_with fail
  go_loopw [4] (fun vi wr => ∃ k : Nat, k ≤ n ∧ vi = .int .i64 k ∧ Hid (SRow wr B n k (revS n S)) ∧ Hid (Below B w wr)) (fun vi _ => n - (intOf vi).toNat)
  case atStart => exact ⟨0, by omega, rfl, H0, hbel1⟩
  case round =>
    obtain ⟨k, hk, rfl, HH, HBL⟩ := hrel
    clear H0 hbel1
    by_cases hlt : k < n
    · obtain ⟨u0, hu0, hf0⟩ := HH.out.got k (by omega)
      have hS := HS.out
      obtain rfl := hS.addr (by omega)
      obtain ⟨q, hq⟩ : ∃ q : Nat, q = n - 1 - k := ⟨_, rfl⟩
      have hc1 : wr.cell? ⟨g, o + q, none⟩ = some (.string (revS n S k)) := by
        unfold revS
        rw [← hq]
        exact (HBL.out.cell (p := ⟨g, o + q, none⟩) (by have := hS.lt (by omega); have := HW.out; show g < B; omega)).trans (hS.cell q (by omega))
      have hkn : (k : Int) < (n : Int) := by omega
      have hqi : (n : Int) - 1 - (k : Int) = (q : Int) := by omega
      have hqn : (q : Int) < (n : Int) := by omega
      have HX : Hid (SRow (wr.setCell ⟨B, k, none⟩ (.string (revS n S k))) B n (k + 1) (revS n S)) := HH.out.step (by omega)
      clear hS hq
      go_wp2_with fail
      go_roundw
      case rel => exact ⟨k + 1, by omega, by go_num, HX, HBL.out.setCell (Nat.le_refl _) _⟩
      case measure => simp [intOf]; omega
    · obtain rfl : k = n := by omega
      go_wp2_with fail
      go_ret
      exact ⟨rfl, HH.out, HBL.out⟩

/-- Both halves, as far as k. -/
def SRow2 (w : World) (B n k : Nat) (S : Nat → ByteArray) : Prop :=
  ∃ cur, w.heap[B]? = some (.cells cur 9 (0, 0)) ∧ cur.size = 2 * n ∧ ∀ j, j < k → cur[j]? = some (.string (S j)) ∧ cur[n + j]? = some (.string (S j))

theorem SRow2.got {w : World} {B n k : Nat} {S : Nat → ByteArray} (h : SRow2 w B n k S) (i : Nat) (hi : i < 2 * n) : ∃ u, w.cell? ⟨B, i, none⟩ = some u ∧ w.frozen? ⟨B, i, none⟩ = false := by
  obtain ⟨cur, h1, h2, h3⟩ := h
  exact ⟨_, (cell_of_row w B i cur 9 (0, 0) h1).trans (Array.getElem?_eq_getElem (by omega)), frozen_of_row w B i cur 9 h1⟩

theorem SRow2.step {w : World} {B n k : Nat} {S : Nat → ByteArray} (h : SRow2 w B n k S) (hk : k < n) : SRow2 ((w.setCell ⟨B, k, none⟩ (.string (S k))).setCell ⟨B, n + k, none⟩ (.string (S k))) B n (k + 1) S := by
  obtain ⟨cur, h1, h2, h3⟩ := h
  have e1 := heap_setCell_same w B k cur 9 (.string (S k)) h1
  have e2 := heap_setCell_same _ B (n + k) _ 9 (.string (S k)) e1
  refine ⟨_, e2, by simpa using h2, fun j hj => ?_⟩
  by_cases e : j = k
  · subst e
    refine ⟨?_, ?_⟩
    · rw [Array.getElem?_setIfInBounds_ne (by omega), Array.getElem?_setIfInBounds_self_of_lt (by omega)]
    · rw [Array.getElem?_setIfInBounds_self_of_lt (by simp; omega)]
  · rw [Array.getElem?_setIfInBounds_ne (by omega), Array.getElem?_setIfInBounds_ne (by omega), Array.getElem?_setIfInBounds_ne (by omega), Array.getElem?_setIfInBounds_ne (by omega)]
    exact h3 j (by omega)

theorem SRow2.done {w : World} {B n : Nat} {S : Nat → ByteArray} (h : SRow2 w B n n S) : SRow w B (2 * n) (2 * n) (twS n S) := by
  obtain ⟨cur, h1, h2, h3⟩ := h
  refine ⟨cur, h1, h2, fun j hj => ?_⟩
  unfold twS
  by_cases e : j < n
  · rw [if_pos e]; exact (h3 j e).1
  · rw [if_neg e]
    have := (h3 (j - n) (by omega)).2
    rwa [show n + (j - n) = j by omega] at this

set_option maxHeartbeats 1000000 in
set_option maxRecDepth 100000 in
theorem tw_aux (B : Nat) (ao : Option Addr) (g o n c : Nat) (S : Nat → ByteArray) (w : World) (HS : Hid (Strs w ao g o n S)) (HW : Hid (B = w.heap.size)) (hn : n ≤ 65536) :
    Calls Try.prog 23 #[.slice ao n c] w fun e w' => e = .returned (.slice (some ⟨B, 0, none⟩) (2 * n) (2 * n)) ∧ SRow w' B (2 * n) (2 * n) (twS n S) ∧ Below B w w' := by
  obtain ⟨i0, hi, hz0, hz1, hz2⟩ := info_parts Try.info9
  go_enter Try.func23, Try.ntmps23
  go_wp2_with (at_make; refine wpList_make_full _ rfl _ _ 22 rfl w.heap.size 9 i0 (.string ⟨#[]⟩) 1 Try.underlying22 hi hz0 hz1 _ _ _ _ (2 * n) rfl rfl (by omega) (by omega) (by rw [hz2]; omega) (by unfold maxLen; omega) (Nat.le_refl _) ?_)
  intro w1 hown1 hgrow1
  rw [← HW.out] at hown1 ⊢
  have H0 : Hid (SRow2 w1 B n 0 S) := by
    obtain ⟨cur, h1, h2, _⟩ := SRow.made S hown1
    exact ⟨cur, h1, h2, fun j hj => absurd hj (by omega)⟩
  have hbel1 : Below B w w1 := (Below.refl B w).grown hgrow1 (by have := HW.out; omega) (fun k hk => by simp at hk)
  clear hown1 hgrow1
  go_wp2_with fail
  go_loopw [4] (fun vi wr => ∃ k : Nat, k ≤ n ∧ vi = .int .i64 k ∧ Hid (SRow2 wr B n k S) ∧ Hid (Below B w wr)) (fun vi _ => n - (intOf vi).toNat)
  case atStart => exact ⟨0, by omega, rfl, H0, hbel1⟩
  case round =>
    obtain ⟨k, hk, rfl, HH, HBL⟩ := hrel
    clear H0 hbel1
    by_cases hlt : k < n
    · obtain ⟨u0, hu0, hf0⟩ := HH.out.got k (by omega)
      obtain ⟨u1, hu1, hf1⟩ := HH.out.got (n + k) (by omega)
      have hS := HS.out
      obtain rfl := hS.addr (by omega)
      have hgB : g < B := by have := hS.lt (by omega); have := HW.out; omega
      have hc1 : wr.cell? ⟨g, o + k, none⟩ = some (.string (S k)) :=
        (HBL.out.cell (p := ⟨g, o + k, none⟩) hgB).trans (hS.cell k (by omega))
      have hkn : (k : Int) < (n : Int) := by omega
      have hgne : ¬ g = B := by omega
      have hkk : ¬ n + k = k := by omega
      have HX : Hid (SRow2 ((wr.setCell ⟨B, k, none⟩ (.string (S k))).setCell ⟨B, n + k, none⟩ (.string (S k))) B n (k + 1) S) := HH.out.step (by omega)
      clear hS
      go_wp2_with fail
      go_roundw
      case rel => exact ⟨k + 1, by omega, by go_num, HX, (HBL.out.setCell (Nat.le_refl _) _).setCell (Nat.le_refl _) _⟩
      case measure => simp [intOf]; omega
    · obtain rfl : k = n := by omega
      go_wp2_with fail
      go_ret
      exact ⟨rfl, HH.out.done, HBL.out⟩

def nmOf (i : Nat) : ByteArray :=
  match i with
  | 0 => ⟨#[111, 112, 116, 105, 111, 110, 115]⟩
  | 1 => ⟨#[99, 111, 114, 114, 101, 99, 116]⟩
  | 2 => ⟨#[116, 111, 108, 101, 114, 97, 110, 99, 101]⟩
  | 3 => ⟨#[97, 108, 109, 111, 115, 116, 83, 104, 97, 114, 101]⟩
  | 4 => ⟨#[97, 99, 99, 101, 112, 116, 101, 100]⟩
  | 5 => ⟨#[103, 97, 112, 115]⟩
  | 6 => ⟨#[105, 116, 101, 109, 115]⟩
  | 7 => ⟨#[108, 101, 102, 116]⟩
  | 8 => ⟨#[114, 105, 103, 104, 116]⟩
  | 9 => ⟨#[99, 111, 114, 114, 101, 99, 116, 80, 97, 105, 114, 115]⟩
  | 10 => ⟨#[112, 111, 105, 110, 116, 115]⟩
  | 11 => ⟨#[116, 105, 109, 101, 76, 105, 109, 105, 116]⟩
  | _ => ⟨#[101, 120, 99, 108, 117, 100, 101, 70, 114, 111, 109, 83, 99, 111, 114, 101]⟩

theorem kfn_any (i : Nat) (hi : i < 13) (w : World) : Calls Try.prog 43 #[.int .i64 i] w fun e w' => e = .returned (.string (nmOf i)) ∧ w' = w := by
  have h : i = 0 ∨ i = 1 ∨ i = 2 ∨ i = 3 ∨ i = 4 ∨ i = 5 ∨ i = 6 ∨ i = 7 ∨ i = 8 ∨ i = 9 ∨ i = 10 ∨ i = 11 ∨ i = 12 := by omega
  rcases h with rfl | rfl | rfl | rfl | rfl | rfl | rfl | rfl | rfl | rfl | rfl | rfl | rfl
  all_goals
    go_enter Try.func43, Try.ntmps43
    go_wp2
    go_ret
    exact ⟨rfl, rfl⟩

/-- list and, behind it, the thirteen names. -/
def allS (n : Nat) (S : Nat → ByteArray) (j : Nat) : ByteArray := if j < n then S j else nmOf (j - n)

set_option maxHeartbeats 1000000 in
set_option maxRecDepth 100000 in
theorem all_aux (B : Nat) (ao : Option Addr) (g o n c : Nat) (S : Nat → ByteArray) (w : World) (HS : Hid (Strs w ao g o n S)) (HW : Hid (B = w.heap.size)) (hn : n ≤ 65536) :
    Calls Try.prog 25 #[.slice ao n c] w fun e w' => e = .returned (.slice (some ⟨B, 0, none⟩) (n + 13) (n + 13)) ∧ SRow w' B (n + 13) (n + 13) (allS n S) ∧ Below B w w' := by
  obtain ⟨i0, hi, hz0, hz1, hz2⟩ := info_parts Try.info9
  go_enter Try.func25, Try.ntmps25
  go_wp2_with (at_make; refine wpList_make_full _ rfl _ _ 22 rfl w.heap.size 9 i0 (.string ⟨#[]⟩) 1 Try.underlying22 hi hz0 hz1 _ _ _ _ (n + 13) rfl rfl (by omega) (by omega) (by rw [hz2]; omega) (by unfold maxLen; omega) (Nat.le_refl _) ?_)
  intro w1 hown1 hgrow1
  rw [← HW.out] at hown1 ⊢
  have H0 : Hid (SRow w1 B (n + 13) 0 (allS n S)) := SRow.made _ hown1
  have hbel1 : Below B w w1 := (Below.refl B w).grown hgrow1 (by have := HW.out; omega) (fun k hk => by simp at hk)
  clear hown1 hgrow1
  go_wp2_with fail
  go_loopw [4] (fun vi wr => ∃ k : Nat, k ≤ n ∧ vi = .int .i64 k ∧ Hid (SRow wr B (n + 13) k (allS n S)) ∧ Hid (Below B w wr)) (fun vi _ => n - (intOf vi).toNat)
  case atStart => exact ⟨0, by omega, rfl, H0, hbel1⟩
  case round =>
    obtain ⟨k, hk, rfl, HH, HBL⟩ := hrel
    clear H0 hbel1
    by_cases hlt : k < n
    · obtain ⟨u0, hu0, hf0⟩ := HH.out.got k (by omega)
      have hS := HS.out
      obtain rfl := hS.addr (by omega)
      have hc1 : wr.cell? ⟨g, o + k, none⟩ = some (.string (S k)) := (HBL.out.cell (p := ⟨g, o + k, none⟩) (by have := hS.lt (by omega); have := HW.out; show g < B; omega)).trans (hS.cell k hlt)
      have hkn : (k : Int) < (n : Int) := by omega
      have HX : Hid (SRow (wr.setCell ⟨B, k, none⟩ (.string (S k))) B (n + 13) (k + 1) (allS n S)) := by
        have h := HH.out.step (by omega)
        have e : allS n S k = S k := by unfold allS; rw [if_pos hlt]
        rwa [e] at h
      clear hS
      go_wp2_with fail
      go_roundw
      case rel => exact ⟨k + 1, by omega, by go_num, HX, HBL.out.setCell (Nat.le_refl _) _⟩
      case measure => simp [intOf]; omega
    · obtain rfl : k = n := by omega
      go_wp2_with fail
      go_loopw [5] (fun vi wy => ∃ i : Nat, i ≤ 13 ∧ vi = .int .i64 i ∧ Hid (SRow wy B (k + 13) (k + i) (allS k S)) ∧ Hid (Below B w wy)) (fun vi _ => 13 - (intOf vi).toNat)
      case atStart => exact ⟨0, by omega, rfl, HH, HBL⟩
      case round =>
        obtain ⟨i, hi13, rfl, HH2, HBL2⟩ := hrel
        clear HH HBL
        by_cases hi2 : i < 13
        · obtain ⟨u0, hu0, hf0⟩ := HH2.out.got (k + i) (by omega)
          have hii : (i : Int) < 13 := by omega
          have HX : Hid (SRow (wr.setCell ⟨B, k + i, none⟩ (.string (nmOf i))) B (k + 13) (k + i + 1) (allS k S)) := by
            have h := HH2.out.step (by omega)
            have e : allS k S (k + i) = nmOf i := by unfold allS; rw [if_neg (by omega), show k + i - k = i by omega]
            rwa [e] at h
          go_wp2_with fail
          refine (kfn_any i hi2 _).mono ?_
          rintro e w3 ⟨rfl, hw3⟩; subst w3
          go_wp2_with fail
          go_roundw
          case rel => exact ⟨i + 1, by omega, by go_num, HX, HBL2.out.setCell (Nat.le_refl _) _⟩
          case measure => simp [intOf]; omega
        · obtain rfl : i = 13 := by omega
          go_wp2_with fail
          go_ret
          exact ⟨rfl, HH2.out, HBL2.out⟩


end Go.Proofs.Qxb6604414a
