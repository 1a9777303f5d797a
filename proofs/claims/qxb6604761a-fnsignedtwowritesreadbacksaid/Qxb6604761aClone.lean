/-
  SEAT b6604761a. zzClone (7).
-/
import Derived.Test.Qxb6604761aApp
import Derived.Test.Qxb6604761aRead
import Derived.WalkSpells
import Derived.Deep.QuietTactic
import Derived.BigQuiet
namespace Go.Proofs.Qxb6604761a
open Go.RowKit
set_option linter.unusedVariables false

theorem byteCells_getElem? (l : List UInt8) (j : Nat) (hj : j < l.length) : (Lib.byteCells l)[j]? = some (.int .u8 (l[j]).toNat) := by
  simp [Lib.byteCells, hj]

theorem byteCells_length (l : List UInt8) : (Lib.byteCells l).length = l.length := by simp [Lib.byteCells]

theorem set_mid {l : List UInt8} {n k : Nat} (hl : l.length = n) (hk : k < n) (z : Value) :
    (Lib.byteCells (l.take k) ++ List.replicate (n - k) z).set k (.int .u8 (l[k]'(by omega)).toNat) = Lib.byteCells (l.take (k + 1)) ++ List.replicate (n - (k + 1)) z := by
  rw [List.set_append_right _ _ (by rw [byteCells_length]; simp; omega), byteCells_length, List.take_succ_eq_append_getElem (by omega)]
  obtain ⟨m, hm⟩ : ∃ m, n - k = m + 1 := ⟨n - k - 1, by omega⟩
  rw [hm, List.replicate_succ, show k - (l.take k).length = 0 by simp; omega, show n - (k + 1) = m by omega]
  rw [Lib.byteCells_append, List.append_assoc]
  rfl

theorem Bytes.carry {w w' : World} {ao : Option Addr} {g o n : Nat} {l : List UInt8} (h : Bytes w ao g o n l) (hc : 0 < n → w'.heap[g]? = w.heap[g]?) : Bytes w' ao g o n l :=
  ⟨h.len, h.addr, fun j hj => (World.cell?_of_block (a := ⟨g, o + j, none⟩) (hc (by have := h.len; omega))).trans (h.cell j hj)⟩

theorem Bytes.lt {w : World} {ao : Option Addr} {g o n : Nat} {l : List UInt8} (h : Bytes w ao g o n l) (hn : 0 < n) : g < w.heap.size :=
  World.block_lt_of_cell? w ⟨g, o + 0, none⟩ (h.cell 0 (by have := h.len; omega))

theorem Bytes.below {B : Nat} {w w' : World} {ao : Option Addr} {g o n : Nat} {l : List UInt8} (h : Bytes w ao g o n l) (hb : Below B w w') (hg : 0 < n → g < B) : Bytes w' ao g o n l :=
  h.carry fun hn => hb.block g (hg hn)

/-- A row that the call owns, read. -/
theorem Bytes.own {w : World} {B n : Nat} {v : Value} {l : List UInt8} (h : w.ownsRow B 5 1 v n (Lib.byteCells l)) : ∃ ao g cap, v = .slice ao n cap ∧ Bytes w ao g 0 n l ∧ (0 < n → B ≤ g) ∧ n ≤ cap := by
  have hl : l.length = n := by have := h.1; rw [byteCells_length] at this; omega
  rcases h.2 with ⟨rfl, rfl⟩ | ⟨g, cap, cur, rfl, hB, hg, hnc, _⟩
  · exact ⟨none, 0, 0, rfl, ⟨hl, fun h => absurd h (by omega), fun j hj => absurd hj (by omega)⟩, fun h => absurd h (by omega), Nat.le_refl _⟩
  · refine ⟨some ⟨g, 0, none⟩, g, cap, rfl, ⟨hl, fun _ => rfl, fun j hj => ?_⟩, fun _ => hB, hnc⟩
    rw [Nat.zero_add, h.cellAt j (by omega)]
    exact byteCells_getElem? l j hj

theorem eqlNil (w : World) (a : Option Addr) (n c n' c' : Nat) : (binOp .eql 22 (.slice a n c) (.slice none n' c')).run Try.prog w = .ok (.bool a.isNone) w :=
  Lib.run_eql_slice_nil w _ _ a n c n' c' Try.underlying22

set_option maxHeartbeats 1000000 in
set_option maxRecDepth 100000 in
theorem clone_aux (B : Nat) (ad : Addr) (g o n cap : Nat) (l : List UInt8) (w : World) (HB : Hid (Bytes w (some ad) g o n l)) (HW : Hid (B = w.heap.size)) (hn : n ≤ 1048576) (hlen : l.length = n) :
    Calls Try.prog 7 #[.slice (some ad) n cap] w fun e w' => e = .returned (.slice (some ⟨B, 0, none⟩) n n) ∧ w'.ownsRow B 5 1 (.slice (some ⟨B, 0, none⟩) n n) n (Lib.byteCells l) ∧ Below B w w' := by
  have hq := eqlNil
  obtain ⟨i0, hi, hz0, hz1, hz2⟩ := info_parts Try.info5
  go_enter Try.func7, Try.ntmps7
  go_wp2_with (at_make; refine wpList_make_full _ rfl _ _ 22 rfl w.heap.size 5 i0 (.int .u8 0) 1 Try.underlying22 hi hz0 hz1 _ _ _ _ n rfl rfl rfl rfl (by rw [hz2]; omega) (by unfold maxLen; omega) (Nat.le_refl _) ?_)
  intro w1 hown1 hgrow1
  rw [← HW.out] at hown1 ⊢
  have hown1' : w1.ownsRow B 5 1 (.slice (some ⟨B, 0, none⟩) n n) n (List.replicate n (.int .u8 0)) := by
    rwa [toList_madeCells_one] at hown1
  have hbel1 : Below B w w1 := (Below.refl B w).grown hgrow1 (by have := HW.out; omega) (fun k hk => by simp at hk)
  clear hown1 hgrow1
  go_wp2
  go_loopw [4] (fun vi wr => ∃ k : Nat, k ≤ n ∧ vi = .int .i64 k ∧ wr.ownsRow B 5 1 (.slice (some ⟨B, 0, none⟩) n n) n (Lib.byteCells (l.take k) ++ List.replicate (n - k) (.int .u8 0)) ∧ Below B w wr) (fun vi _ => n - (intOf vi).toNat)
  case atStart => exact ⟨0, by omega, rfl, by simpa [Lib.byteCells] using hown1', hbel1⟩
  case round =>
    obtain ⟨k, hk, rfl, hown, hbel⟩ := hrel
    clear hown1' hbel1
    by_cases hlt : k < n
    · have hbb := HB.out
      obtain rfl := Option.some.inj (hbb.addr (by omega))
      have hgB : g < B := by have := hbb.lt (by omega); have := HW.out; omega
      obtain ⟨c, hcv⟩ : ∃ c : Int, c = (l[k]).toNat := ⟨_, rfl⟩
      have hc : wr.cell? ⟨g, o + k, none⟩ = some (.int .u8 c) := by rw [hcv]; exact (hbel.cell (p := ⟨g, o + k, none⟩) hgB).trans (hbb.cell k (by omega))
      have hc2 : (wr.cell? ⟨B, k, none⟩).isSome = true := by
        rw [hown.cellAt k (by omega)]
        simp [byteCells_length]
        omega
      obtain ⟨u, hu⟩ := Option.isSome_iff_exists.1 hc2
      have hfz := hown.frozenAt k
      have hst := hown.stored k (.int .u8 c)
      have HO : Hid ((wr.setCell ⟨B, k, none⟩ (.int .u8 c)).ownsRow B 5 1 (.slice (some ⟨B, 0, none⟩) n n) n (Lib.byteCells (l.take (k + 1)) ++ List.replicate (n - (k + 1)) (.int .u8 0))) := by
        have := hst.1
        rw [hcv] at this ⊢
        rwa [set_mid hlen hlt] at this
      clear hown hst hc2 hcv hbb hlen
      go_wp2
      go_roundw
      case rel => exact ⟨k + 1, by omega, by go_num, HO.out, hbel.setCell (Nat.le_refl _) _⟩
      case measure => simp [intOf]; omega
    · obtain rfl : k = n := by omega
      have hown2 : wr.ownsRow B 5 1 (.slice (some ⟨B, 0, none⟩) k k) k (Lib.byteCells l) := by
        have h := hown
        rwa [List.take_of_length_le (by omega), Nat.sub_self, List.replicate_zero, List.append_nil] at h
      clear hown hlen
      go_wp2
      go_ret
      exact ⟨rfl, hown2, hbel⟩

theorem clone_any (ao : Option Addr) (g o n cap : Nat) (l : List UInt8) (w : World) (hb : Bytes w ao g o n l) (hn : n ≤ 1048576) :
    Calls Try.prog 7 #[.slice ao n cap] w fun e w' => ∃ a', e = .returned (.slice a' n n) ∧ w'.ownsRow w.heap.size 5 1 (.slice a' n n) n (Lib.byteCells l) ∧ Below w.heap.size w w' := by
  cases ao with
  | none =>
    have hq := eqlNil
    obtain rfl : n = 0 := by
      rcases Nat.eq_zero_or_pos n with h | h
      · exact h
      · exact absurd (hb.addr h) (by simp)
    obtain rfl : l = [] := List.eq_nil_of_length_eq_zero hb.len
    clear hb
    go_enter Try.func7, Try.ntmps7
    go_wp2
    go_ret
    exact ⟨_, rfl, World.ownsRow_nil _ _ _ _, Below.refl _ _⟩
  | some ad => exact (clone_aux _ ad g o n cap l w hb rfl hn hb.len).mono fun e w' ⟨h1, h2, h3⟩ => ⟨_, h1, h2, h3⟩

#print axioms clone_any
end Go.Proofs.Qxb6604761a
