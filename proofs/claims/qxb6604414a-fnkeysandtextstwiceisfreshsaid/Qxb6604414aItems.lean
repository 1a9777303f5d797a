/-
  SEAT b6604414a. A TABLE OF ITEMS OF THE CALL's OWN ('Tab'); zzJB1Items (12).
-/
import Derived.Test.Qxb6604414aStrs
namespace Go.Proofs.Qxb6604414a
open Go.RowKit
set_option linter.unusedVariables false

/-- A block of n items (two strings each) that the call laid at B; its first k hold K, T. -/
def Tab (w : World) (B n k : Nat) (K T : Nat → ByteArray) : Prop :=
  ∃ cur, w.heap[B]? = some (.cells cur 30 (0, 0)) ∧ cur.size = n * 2 ∧ ∀ j, j < k → cur[j * 2]? = some (.string (K j)) ∧ cur[j * 2 + 1]? = some (.string (T j))

theorem Tab.lt {w : World} {B n k : Nat} {K T : Nat → ByteArray} (h : Tab w B n k K T) : B < w.heap.size := by
  obtain ⟨cur, h1, _⟩ := h
  exact (Array.getElem?_eq_some_iff.1 h1).1

theorem Tab.carry {w w' : World} {B n k : Nat} {K T : Nat → ByteArray} (h : Tab w B n k K T) (he : w'.heap[B]? = w.heap[B]?) : Tab w' B n k K T := by
  obtain ⟨cur, h1, h2⟩ := h
  exact ⟨cur, he.trans h1, h2⟩

theorem Tab.below {B' : Nat} {w w' : World} {B n k : Nat} {K T : Nat → ByteArray} (h : Tab w B n k K T) (hb : Below B' w w') (hB : B < B') : Tab w' B n k K T := h.carry (hb.block B hB)

theorem Tab.cell0 {w : World} {B n k : Nat} {K T : Nat → ByteArray} (h : Tab w B n k K T) (j : Nat) (hj : j < k) : w.cell? ⟨B, j * 2, none⟩ = some (.string (K j)) := by
  obtain ⟨cur, h1, h2, h3⟩ := h
  rw [cell_of_row w B (j * 2) cur 30 (0, 0) h1]; exact (h3 j hj).1

theorem Tab.cell1 {w : World} {B n k : Nat} {K T : Nat → ByteArray} (h : Tab w B n k K T) (j : Nat) (hj : j < k) : w.cell? ⟨B, j * 2 + 1, none⟩ = some (.string (T j)) := by
  obtain ⟨cur, h1, h2, h3⟩ := h
  rw [cell_of_row w B (j * 2 + 1) cur 30 (0, 0) h1]; exact (h3 j hj).2

/-- Every cell of the block is there and may be written. -/
theorem Tab.some {w : World} {B n k : Nat} {K T : Nat → ByteArray} (h : Tab w B n k K T) (i : Nat) (hi : i < n * 2) : ∃ u, w.cell? ⟨B, i, none⟩ = some u ∧ w.frozen? ⟨B, i, none⟩ = false := by
  obtain ⟨cur, h1, h2, h3⟩ := h
  exact ⟨_, (cell_of_row w B i cur 30 (0, 0) h1).trans (Array.getElem?_eq_getElem (by omega)), frozen_of_row w B i cur 30 h1⟩

/-- One item more. -/
theorem Tab.step {w : World} {B n k : Nat} {K T : Nat → ByteArray} (h : Tab w B n k K T) (hk : k < n) : Tab ((w.setCell ⟨B, k * 2, none⟩ (.string (K k))).setCell ⟨B, k * 2 + 1, none⟩ (.string (T k))) B n (k + 1) K T := by
  obtain ⟨cur, h1, h2, h3⟩ := h
  have e1 := heap_setCell_same w B (k * 2) cur 30 (.string (K k)) h1
  have e2 := heap_setCell_same _ B (k * 2 + 1) _ 30 (.string (T k)) e1
  refine ⟨_, e2, by simpa using h2, fun j hj => ?_⟩
  by_cases e : j = k
  · subst e
    refine ⟨?_, ?_⟩
    · rw [Array.getElem?_setIfInBounds_ne (by omega), Array.getElem?_setIfInBounds_self_of_lt (by omega)]
    · rw [Array.getElem?_setIfInBounds_self_of_lt (by simp; omega)]
  · rw [Array.getElem?_setIfInBounds_ne (by omega), Array.getElem?_setIfInBounds_ne (by omega), Array.getElem?_setIfInBounds_ne (by omega), Array.getElem?_setIfInBounds_ne (by omega)]
    exact h3 j (by omega)

theorem eqlNil22 (w : World) (a : Option Addr) (n c n' c' : Nat) : (binOp .eql 22 (.slice a n c) (.slice none n' c')).run Try.prog w = .ok (.bool a.isNone) w :=
  Lib.run_eql_slice_nil w _ _ a n c n' c' Try.underlying22
theorem eqlNil26 (w : World) (a : Option Addr) (n c n' c' : Nat) : (binOp .eql 26 (.slice a n c) (.slice none n' c')).run Try.prog w = .ok (.bool a.isNone) w :=
  Lib.run_eql_slice_nil w _ _ a n c n' c' Try.underlying26

theorem Try.info30 : (Try.prog.info? 30).map (fun i => (i.zero, i.size, i.bytes)) = some (some (.agg #[.string ⟨#[]⟩, .string ⟨#[]⟩]), 2, 32) := by kernel_rfl

set_option maxHeartbeats 2000000 in
set_option maxRecDepth 100000 in
theorem items_aux (B : Nat) (ad : Addr) (g o n c : Nat) (K : Nat → ByteArray) (ao2 : Option Addr) (g2 o2 c2 : Nat) (T : Nat → ByteArray) (w : World) (HK : Hid (Strs w (some ad) g o n K)) (HT : Hid (Strs w ao2 g2 o2 n T)) (HW : Hid (B = w.heap.size)) (hn : n ≤ 65536) :
    Calls Try.prog 12 #[.slice (some ad) n c, .slice ao2 n c2] w fun e w' => e = .returned (.slice (some ⟨B, 0, none⟩) n n) ∧ Tab w' B n n K T ∧ Below B w w' := by
  have hq := eqlNil22
  obtain ⟨i0, hi, hz0, hz1, hz2⟩ := info_parts Try.info30
  go_enter Try.func12, Try.ntmps12
  go_wp2_with (at_make; refine wpList_make_full _ rfl _ _ 26 rfl w.heap.size 30 i0 (.agg #[.string ⟨#[]⟩, .string ⟨#[]⟩]) 2 Try.underlying26 hi hz0 hz1 _ _ _ _ n rfl rfl rfl rfl (by rw [hz2]; omega) (by unfold maxLen; omega) (Nat.le_refl _) ?_)
  intro w1 hown1 hgrow1
  rw [← HW.out] at hown1 ⊢
  have H0 : Tab w1 B n 0 K T := by
    rcases hown1.2 with ⟨h, _⟩ | ⟨g', cap', cur, h, _, hh, _, _, hs, _⟩
    · cases h
    · simp only [Value.slice.injEq, Option.some.injEq, Addr.mk.injEq, and_true, true_and] at h
      obtain ⟨rfl, rfl⟩ := h
      exact ⟨cur, hh, hs, fun j hj => absurd hj (by omega)⟩
  have hbel1 : Below B w w1 := (Below.refl B w).grown hgrow1 (by have := HW.out; omega) (fun k hk => by simp at hk)
  clear hown1 hgrow1
  go_wp2
  go_loopw [6] (fun vi wr => ∃ k : Nat, k ≤ n ∧ vi = .int .i64 k ∧ Tab wr B n k K T ∧ Below B w wr) (fun vi _ => n - (intOf vi).toNat)
  case atStart => exact ⟨0, by omega, rfl, H0, hbel1⟩
  case round =>
    obtain ⟨k, hk, rfl, ht, hbel⟩ := hrel
    clear H0 hbel1
    have HH : Hid (Tab wr B n k K T) := ht
    have HBL : Hid (Below B w wr) := hbel
    clear ht hbel
    by_cases hlt : k < n
    · have hK := HK.out; have hT := HT.out
      obtain rfl := Option.some.inj (hK.addr (by omega))
      obtain rfl := hT.addr (by omega)
      have hc1 : wr.cell? ⟨g, o + k, none⟩ = some (.string (K k)) := (HBL.out.cell (p := ⟨g, o + k, none⟩) (by have := hK.lt (by omega); have := HW.out; show g < B; omega)).trans (hK.cell k hlt)
      have hc2 : wr.cell? ⟨g2, o2 + k, none⟩ = some (.string (T k)) := (HBL.out.cell (p := ⟨g2, o2 + k, none⟩) (by have := hT.lt (by omega); have := HW.out; show g2 < B; omega)).trans (hT.cell k hlt)
      obtain ⟨u0, hu0, hf0⟩ := HH.out.some (k * 2) (by omega)
      obtain ⟨u1, hu1, hf1⟩ := HH.out.some (k * 2 + 1) (by omega)
      have hkn : (k : Int) < (n : Int) := by omega
      clear hK hT
      go_wp2_with fail
      go_region
      go_wp2
      go_roundw
      case rel => exact ⟨k + 1, by omega, by go_num, (HH.out.step hlt).carry rfl, ((HBL.out.setCell (Nat.le_refl _) _).setCell (Nat.le_refl _) _).drew⟩
      case measure => simp [intOf]; omega
    · obtain rfl : k = n := by omega
      go_wp2
      go_ret
      exact ⟨rfl, HH.out, HBL.out⟩

theorem items_nil (n c : Nat) (v2 : Value) (w : World) : Calls Try.prog 12 #[.slice none n c, v2] w fun e w' => e = .returned (.slice none 0 0) ∧ w' = w := by
  have hq := eqlNil22
  go_enter Try.func12, Try.ntmps12
  go_wp2
  go_ret
  exact ⟨rfl, rfl⟩

/-- The function that copyEach is handed: the same two strings. -/
theorem clo_any (a b : ByteArray) (w : World) : Calls Try.prog 48 #[.agg #[.string a, .string b]] w fun e w' => e = .returned (.agg #[.string a, .string b]) ∧ Below w.heap.size w w' := by
  go_enter Try.func48, Try.ntmps48
  go_wp2
  exact bodyPost_ret (v := .agg #[.string a, .string b]) (by simp [results, Try.results48, go_sem]) rfl ⟨rfl, ((Below.refl _ _).alloc (Nat.le_refl _) _).alloc (by simp) _⟩

set_option maxHeartbeats 2000000 in
set_option maxRecDepth 100000 in
theorem ce_aux (B Bi n c : Nat) (K T : Nat → ByteArray) (w : World) (HI : Hid (Tab w Bi n n K T)) (HW : Hid (B = w.heap.size)) (hn : n ≤ 65536) :
    Calls Try.prog 47 #[.slice (some ⟨Bi, 0, none⟩) n c, .func (Fn.func 48) #[] #[]] w fun e w' => e = .returned (.slice (some ⟨B, 0, none⟩) n n) ∧ Tab w' B n n K T ∧ Below B w w' := by
  have hq := eqlNil26
  obtain ⟨i0, hi, hz0, hz1, hz2⟩ := info_parts Try.info30
  go_enter Try.func47, Try.ntmps47
  go_wp2_with (at_make; refine wpList_make_full _ rfl _ _ 26 rfl w.heap.size 30 i0 (.agg #[.string ⟨#[]⟩, .string ⟨#[]⟩]) 2 Try.underlying26 hi hz0 hz1 _ _ _ _ n rfl rfl rfl rfl (by rw [hz2]; omega) (by unfold maxLen; omega) (Nat.le_refl _) ?_)
  intro w1 hown1 hgrow1
  rw [← HW.out] at hown1 ⊢
  have H0 : Tab w1 B n 0 K T := by
    rcases hown1.2 with ⟨h, _⟩ | ⟨g', cap', cur, h, _, hh, _, _, hs, _⟩
    · cases h
    · simp only [Value.slice.injEq, Option.some.injEq, Addr.mk.injEq, and_true, true_and] at h
      obtain ⟨rfl, rfl⟩ := h
      exact ⟨cur, hh, hs, fun j hj => absurd hj (by omega)⟩
  have hbel1 : Below B w w1 := (Below.refl B w).grown hgrow1 (by have := HW.out; omega) (fun k hk => by simp at hk)
  clear hown1 hgrow1
  go_wp2_with fail
  go_loopw [15] (fun vi wr => ∃ k : Nat, k ≤ n ∧ vi = .int .i64 k ∧ Tab wr B n k K T ∧ Below B w wr) (fun vi _ => n - (intOf vi).toNat)
  case atStart => exact ⟨0, by omega, rfl, H0, hbel1⟩
  case round =>
    obtain ⟨k, hk, rfl, ht, hbel⟩ := hrel
    clear H0 hbel1
    have HH : Hid (Tab wr B n k K T) := ht
    have HBL : Hid (Below B w wr) := hbel
    clear ht hbel
    by_cases hlt : k < n
    · have hbi : Bi < B := by have := HI.out.lt; have := HW.out; omega
      have hIr := HI.out.below HBL.out hbi
      have hc1 := hIr.cell0 k hlt
      have hc2 := hIr.cell1 k hlt
      have hkn : (k : Int) < (n : Int) := by omega
      have hzB : B < wr.heap.size := HH.out.lt
      clear hIr
      go_wp2_with fail
      refine (clo_any (K k) (T k) _).mono ?_
      rintro e w2 ⟨rfl, hb2⟩
      have HB2 : Hid (Below wr.heap.size wr w2) := ((Below.refl _ _).alloc (Nat.le_refl _) _).trans (hb2.mono (by simp))
      clear hb2 hc1 hc2
      have HH2 : Hid (Tab w2 B n k K T) := HH.out.below HB2.out hzB
      obtain ⟨u0, hu0, hf0⟩ := HH2.out.some (k * 2) (by omega)
      obtain ⟨u1, hu1, hf1⟩ := HH2.out.some (k * 2 + 1) (by omega)
      go_wp2_with fail
      go_roundw
      case rel => exact ⟨k + 1, by omega, by go_num, HH2.out.step hlt, ((HBL.out.trans (HB2.out.mono (Nat.le_of_lt hzB))).setCell (Nat.le_refl _) _).setCell (Nat.le_refl _) _⟩
      case measure => simp [intOf]; omega
    · obtain rfl : k = n := by omega
      go_wp2_with fail
      go_ret
      exact ⟨rfl, HH.out, HBL.out⟩

theorem ce_nil (n c : Nat) (v2 : Value) (w : World) : Calls Try.prog 47 #[.slice none n c, v2] w fun e w' => e = .returned (.slice none 0 0) ∧ w' = w := by
  have hq := eqlNil26
  go_enter Try.func47, Try.ntmps47
  go_wp2
  go_ret
  exact ⟨rfl, rfl⟩

/-- What a list of items that the call made is: nil, or a table at block B. -/
def Its (w : World) (v : Value) (isNil : Bool) (B n : Nat) (K T : Nat → ByteArray) : Prop :=
  (isNil = true ∧ n = 0 ∧ v = .slice none 0 0) ∨ (isNil = false ∧ v = .slice (some ⟨B, 0, none⟩) n n ∧ Tab w B n n K T)

theorem kt_any (v : Value) (isNil : Bool) (Bi n : Nat) (K T : Nat → ByteArray) (w : World) (h : Its w v isNil Bi n K T) (hn : n ≤ 65536) :
    Calls Try.prog 39 #[v] w fun e w' => ∃ v', e = .returned v' ∧ Its w' v' isNil w.heap.size n K T ∧ Below w.heap.size w w' := by
  rcases h with ⟨rfl, rfl, rfl⟩ | ⟨rfl, rfl, ht⟩
  · go_enter Try.func39, Try.ntmps39
    go_wp2_with fail
    refine (ce_nil 0 0 _ w).mono ?_
    rintro e w1 ⟨rfl, hw1⟩; subst w1
    go_wp2_with fail
    go_ret
    exact ⟨_, rfl, .inl ⟨rfl, rfl, rfl⟩, Below.refl _ _⟩
  · have HT : Hid (Tab w Bi n n K T) := ht
    clear ht
    go_enter Try.func39, Try.ntmps39
    go_wp2_with fail
    refine (ce_aux _ Bi n n K T w HT rfl hn).mono ?_
    rintro e w1 ⟨rfl, ht1, hb1⟩
    have HT1 : Hid (Tab w1 w.heap.size n n K T) := ht1
    clear ht1
    go_wp2_with fail
    go_ret
    exact ⟨_, rfl, .inr ⟨rfl, rfl, HT1.out⟩, hb1⟩

theorem zkt_any (v : Value) (isNil : Bool) (Bi n : Nat) (K T : Nat → ByteArray) (w : World) (h : Its w v isNil Bi n K T) (hn : n ≤ 65536) :
    Calls Try.prog 13 #[v] w fun e w' => ∃ v', e = .returned v' ∧ Its w' v' isNil w.heap.size n K T ∧ Below w.heap.size w w' := by
  go_enter Try.func13, Try.ntmps13
  go_wp2_with fail
  refine (kt_any v isNil Bi n K T w h hn).mono ?_
  rintro e w1 ⟨v1, rfl, h1, hb1⟩
  have H1 : Hid (Its w1 v1 isNil w.heap.size n K T) := h1
  clear h1
  go_wp2_with fail
  go_ret
  exact ⟨_, rfl, H1.out, hb1⟩

theorem items_any (ao : Option Addr) (g o n c : Nat) (K : Nat → ByteArray) (ao2 : Option Addr) (g2 o2 c2 : Nat) (T : Nat → ByteArray) (w : World) (hK : Strs w ao g o n K) (hT : Strs w ao2 g2 o2 n T) (hn : n ≤ 65536) :
    Calls Try.prog 12 #[.slice ao n c, .slice ao2 n c2] w fun e w' => ∃ v', e = .returned v' ∧ Its w' v' ao.isNone w.heap.size n K T ∧ Below w.heap.size w w' := by
  cases ao with
  | none =>
    refine (items_nil n c _ w).mono ?_
    rintro e w1 ⟨rfl, hw1⟩; subst w1
    have h0 : n = 0 := by
      rcases Nat.eq_zero_or_pos n with h | h
      · exact h
      · exact absurd (hK.addr h) (by simp)
    exact ⟨_, rfl, .inl ⟨rfl, h0, rfl⟩, Below.refl _ _⟩
  | some ad =>
    refine (items_aux _ ad g o n c K ao2 g2 o2 c2 T w hK hT rfl hn).mono ?_
    rintro e w1 ⟨rfl, h1, h2⟩
    exact ⟨_, rfl, .inr ⟨rfl, rfl, h1⟩, h2⟩

#print axioms items_any
#print axioms zkt_any
end Go.Proofs.Qxb6604414a
