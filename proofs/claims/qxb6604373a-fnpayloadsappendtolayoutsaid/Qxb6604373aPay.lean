/-
  SEAT b6604373a. zzHasPrefix (20), zzBytes_FnPayloadAppendToRoundTrip (17), appendID (31), payload.appendTo (29), ZZPayloadAppendTo (19).
-/
import Derived.Test.Qxb6604373aClone
namespace Go.Proofs.Qxb6604373a
open Go.RowKit
set_option linter.unusedVariables false

set_option maxHeartbeats 1000000 in
set_option maxRecDepth 100000 in
theorem pre_any (ao : Option Addr) (g o n cap : Nat) (ls : List UInt8) (ao2 : Option Addr) (g2 o2 m cap2 : Nat) (lp : List UInt8) (w : World) (hs : Bytes w ao g o n ls) (hp : Bytes w ao2 g2 o2 m lp) (hn : n ≤ 140737488355328) (rest : List UInt8) (hpre : ls = lp ++ rest) :
    Calls Try.prog 20 #[.slice ao n cap, .slice ao2 m cap2] w fun e w' => e = .returned (.bool true) ∧ ∃ nq, w' = w.drewN nq := by
  have hmn : m ≤ n := by
    have h1 := hs.len; have h2 := hp.len
    rw [hpre, List.length_append] at h1
    omega
  have HS : Hid (Bytes w ao g o n ls) := hs
  have HP : Hid (Bytes w ao2 g2 o2 m lp) := hp
  have HE : Hid (ls = lp ++ rest) := hpre
  clear hs hp hpre
  go_enter Try.func20, Try.ntmps20
  go_wp2
  go_loopw [5] (fun vi wr => ∃ k nq : Nat, k ≤ m ∧ vi = .int .i64 k ∧ wr = w.drewN nq) (fun vi _ => m - (intOf vi).toNat)
  case atStart => exact ⟨0, 0, by omega, rfl, rfl⟩
  case round =>
    obtain ⟨k, nq0, hk, rfl, rfl⟩ := hrel
    by_cases hlt : k < m
    · have hs := HS.out; have hp := HP.out; have he := HE.out
      have hl2 := hp.len; have hl1 := hs.len
      obtain rfl := hs.addr (by omega)
      obtain rfl := hp.addr (by omega)
      obtain ⟨c, hcv⟩ : ∃ c : Int, c = (lp[k]).toNat := ⟨_, rfl⟩
      have hc2 : w.cell? ⟨g2, o2 + k, none⟩ = some (.int .u8 c) := by rw [hcv]; exact hp.cell k (by omega)
      have hc1 : w.cell? ⟨g, o + k, none⟩ = some (.int .u8 c) := by
        have h := hs.cell k (by omega)
        have e : ls[k]'(by omega) = lp[k]'(by omega) := by
          subst he
          exact List.getElem_append_left (by omega)
        rw [hcv, ← e]; exact h
      have hkn : (k : Int) < (n : Int) := by omega
      have hkm : (k : Int) < (m : Int) := by omega
      clear hs hp he hl1 hl2 hcv
      go_wp2
      go_quiet (fail)
      go_wp2
      go_roundw
      case rel => exact ⟨k + 1, _, by omega, by go_num, rfl⟩
      case measure => simp [intOf]; omega
    · go_wp2
      go_ret
      exact ⟨rfl, _, rfl⟩

/-- The bound on the lengths: whatever it answers, it answers; the world stands. -/
theorem zb1_any (a0 a1 : Value) (ao2 ao3 : Option Addr) (n2 c2 n3 c3 : Nat) (w : World) (h2 : n2 ≤ 9223372036854775807) (h3 : n3 ≤ 9223372036854775807) :
    Calls Try.prog 17 #[a0, a1, .slice ao2 n2 c2, .slice ao3 n3 c3] w fun e w' => e = .returned (.bool (decide (n2 + n3 ≤ 1048576))) ∧ w' = w := by
  by_cases c1 : n2 ≤ 1048576
  · by_cases c2 : n3 ≤ 1048576
    · by_cases c3 : n2 + n3 ≤ 1048576
      · go_enter Try.func17, Try.ntmps17
        go_wp2
        go_ret
        exact ⟨by rw [decide_eq_true c3]; rfl, rfl⟩
      · go_enter Try.func17, Try.ntmps17
        go_wp2
        go_ret
        exact ⟨by rw [decide_eq_false c3]; rfl, rfl⟩
    · go_enter Try.func17, Try.ntmps17
      go_wp2
      go_ret
      exact ⟨by rw [decide_eq_false (show ¬ n2 + n3 ≤ 1048576 by omega)]; rfl, rfl⟩
  · go_enter Try.func17, Try.ntmps17
    go_wp2
    go_ret
    exact ⟨by rw [decide_eq_false (show ¬ n2 + n3 ≤ 1048576 by omega)]; rfl, rfl⟩

theorem Kept.box {B : Nat} {w w1 : World} {cs : Array Value} {t : TypeId} (h : Kept B (w.alloc (.cells cs t)) w1) (ht : t ≠ 5) : w1.heap[w.heap.size]? = some (.cells cs t (0, 0)) := by
  have e : (w.alloc (.cells cs t)).heap[w.heap.size]? = some (.cells cs t (0, 0)) := heap_alloc_new w _
  rw [h.other w.heap.size (by simp) (fun cur fz hc => by rw [e] at hc; injection hc with hc; injection hc with _ h2 _; exact ht h2), e]

theorem Kept.boxCell {B : Nat} {w w1 : World} {cs : Array Value} {t : TypeId} (h : Kept B (w.alloc (.cells cs t)) w1) (ht : t ≠ 5) (j : Nat) : w1.cell? ⟨w.heap.size, j, none⟩ = cs[j]? :=
  cell_of_row w1 w.heap.size j cs t (0, 0) (h.box ht)

theorem u64_lo (s : Int) : 0 ≤ IntKind.u64.wrap s := by rw [IntKind.wrap_u64]; omega
theorem u64_hi (s : Int) : IntKind.u64.wrap s < 18446744073709551616 := by rw [IntKind.wrap_u64]; omega

theorem uvl (x : Int) (h0 : 0 ≤ x) (h1 : x < 18446744073709551616) : 1 ≤ (Lib.uvarint x.toNat).length ∧ (Lib.uvarint x.toNat).length ≤ 10 :=
  ⟨Lib.uvarint_pos _, Lib.uvarint_length64 (by omega)⟩

/-- The bytes that appendID appends. -/
def idBytes (s q : Int) : List UInt8 := Lib.uvarint (IntKind.u64.wrap s).toNat ++ Lib.uvarint q.toNat

theorem idBytes_len (s q : Int) (h0 : 0 ≤ q) (h1 : q < 18446744073709551616) : 2 ≤ (idBytes s q).length ∧ (idBytes s q).length ≤ 20 := by
  have a := uvl _ (u64_lo s) (u64_hi s)
  have b := uvl q h0 h1
  unfold idBytes
  rw [List.length_append]
  omega

set_option maxHeartbeats 1000000 in
set_option maxRecDepth 100000 in
theorem id_any (B n : Nat) (s q : Int) (h0 : 0 ≤ q) (h1 : q < 18446744073709551616) (sv : Value) (l : List UInt8) (w : World) (hown : w.ownsRow B 5 1 sv n (Lib.byteCells l)) (hBw : B ≤ w.heap.size) (hlim : n ≤ 70368744177664) :
    Calls Try.prog 31 #[sv, .agg #[.int .i64 s, .int .u64 q]] w fun e w' => ∃ v', e = .returned v' ∧ w'.ownsRow B 5 1 v' (n + (idBytes s q).length) (Lib.byteCells (l ++ idBytes s q)) ∧ Kept B w w' := by
  have hu := uvl _ (u64_lo s) (u64_hi s)
  go_enter Try.func31, Try.ntmps31
  go_wp2_with fail
  refine (uv_any B n _ (u64_lo s) (u64_hi s) sv (Lib.byteCells l) _ (hown.alloc _) (by simp; omega) (by omega)).mono ?_
  rintro e w1 ⟨v1, rfl, ho1, hk1⟩
  have hc1 := hk1.boxCell (by decide) 1
  have hz : B ≤ w1.heap.size := by have := hk1.below.size; simp at this; omega
  have hk : Kept B w w1 := ((Kept.refl B w).alloc hBw _).trans hk1
  clear hk1
  go_wp2_with fail
  refine (uv_any B _ q h0 h1 v1 _ w1 ho1 hz (by omega)).mono ?_
  rintro e w2 ⟨v2, rfl, ho2, hk2⟩
  clear hc1
  go_wp2_with fail
  go_ret
  refine ⟨v2, rfl, ?_, hk.trans hk2⟩
  unfold idBytes
  rw [List.length_append, ← Nat.add_assoc, ← List.append_assoc, Lib.byteCells_append, Lib.byteCells_append]
  exact ho2

/-- The bytes that payload.appendTo appends. -/
def payBytes (s q : Int) (m : Nat) : List UInt8 := idBytes s q ++ Lib.uvarint m

set_option maxHeartbeats 1000000 in
set_option maxRecDepth 100000 in
theorem pay_any (B n : Nat) (s q : Int) (h0 : 0 ≤ q) (h1 : q < 18446744073709551616) (ao : Option Addr) (m c : Nat) (hm : m ≤ 1048576) (sv : Value) (l : List UInt8) (w : World) (hown : w.ownsRow B 5 1 sv n (Lib.byteCells l)) (hBw : B ≤ w.heap.size) (hlim : n ≤ 1048576) :
    Calls Try.prog 29 #[.agg #[.int .i64 s, .int .u64 q, .slice ao m c], sv] w fun e w' => ∃ v', e = .returned v' ∧ w'.ownsRow B 5 1 v' (n + (payBytes s q m).length) (Lib.byteCells (l ++ payBytes s q m)) ∧ Kept B w w' := by
  have hu := idBytes_len s q h0 h1
  go_enter Try.func29, Try.ntmps29
  go_wp2_with fail
  refine (id_any B n s q h0 h1 sv l _ (hown.alloc _) (by simp; omega) (by omega)).mono ?_
  rintro e w1 ⟨v1, rfl, ho1, hk1⟩
  have hc1 := hk1.boxCell (by decide) 2
  have hz : B ≤ w1.heap.size := by have := hk1.below.size; simp at this; omega
  have hk : Kept B w w1 := ((Kept.refl B w).alloc hBw _).trans hk1
  clear hk1
  go_wp2_with fail
  refine (uv_any B _ (m : Int) (by omega) (by omega) v1 _ w1 ho1 hz (by omega)).mono ?_
  rintro e w2 ⟨v2, rfl, ho2, hk2⟩
  clear hc1
  go_wp2_with fail
  go_ret
  refine ⟨v2, rfl, ?_, hk.trans hk2⟩
  unfold payBytes
  rw [List.length_append, ← Nat.add_assoc, ← List.append_assoc, Lib.byteCells_append]
  exact ho2

set_option maxHeartbeats 1000000 in
set_option maxRecDepth 100000 in
theorem zzpay_any (B n : Nat) (s q : Int) (h0 : 0 ≤ q) (h1 : q < 18446744073709551616) (ao : Option Addr) (m c : Nat) (hm : m ≤ 1048576) (sv : Value) (l : List UInt8) (w : World) (hown : w.ownsRow B 5 1 sv n (Lib.byteCells l)) (hBw : B ≤ w.heap.size) (hlim : n ≤ 1048576) :
    Calls Try.prog 19 #[.int .i64 s, .int .u64 q, .slice ao m c, sv] w fun e w' => ∃ v', e = .returned v' ∧ w'.ownsRow B 5 1 v' (n + (payBytes s q m).length) (Lib.byteCells (l ++ payBytes s q m)) ∧ Kept B w w' := by
  go_enter Try.func19, Try.ntmps19
  go_wp2_with fail
  refine (pay_any B n s q h0 h1 ao m c hm sv l _ hown hBw hlim).mono ?_
  rintro e w1 ⟨v1, rfl, ho1, hk1⟩
  go_wp2_with fail
  go_ret
  exact ⟨v1, rfl, ho1, hk1⟩

#print axioms zzpay_any
end Go.Proofs.Qxb6604373a
