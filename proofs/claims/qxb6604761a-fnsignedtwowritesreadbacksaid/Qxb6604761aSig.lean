/-
  SEAT b6604761a. zzPrefixOf (9), zzBytes_FnSignedTwoWritesReadBack (6); AppendUvarint onto a full row (30), AppendVarint (22), signed (19), ZZsigned (8), zzUnzig (11).
-/
import Derived.Test.Qxb6604761aClone
import Derived.Lib.Zigzag
namespace Go.Proofs.Qxb6604761a
open Go.RowKit
set_option linter.unusedVariables false

set_option maxHeartbeats 1000000 in
set_option maxRecDepth 100000 in
theorem pre_any (ao : Option Addr) (g o n cap : Nat) (ls : List UInt8) (ao2 : Option Addr) (g2 o2 m cap2 : Nat) (lp : List UInt8) (w : World) (hs : Bytes w ao g o n ls) (hp : Bytes w ao2 g2 o2 m lp) (hn : n ≤ 140737488355328) (rest : List UInt8) (hpre : ls = lp ++ rest) :
    Calls Try.prog 9 #[.slice ao2 m cap2, .slice ao n cap] w fun e w' => e = .returned (.bool true) ∧ ∃ nq, w' = w.drewN nq := by
  have hmn : m ≤ n := by
    have h1 := hs.len; have h2 := hp.len
    rw [hpre, List.length_append] at h1
    omega
  have HS : Hid (Bytes w ao g o n ls) := hs
  have HP : Hid (Bytes w ao2 g2 o2 m lp) := hp
  have HE : Hid (ls = lp ++ rest) := hpre
  clear hs hp hpre
  go_enter Try.func9, Try.ntmps9
  go_wp2
  go_loopw [5] (fun vi wr => ∃ k nq : Nat, k ≤ m ∧ vi = .int .i64 k ∧ wr = w.drewN nq) (fun vi _ => m - (intOf vi).toNat)
  case atStart => exact ⟨0, 0, by omega, rfl, rfl⟩
  case round =>
    obtain ⟨k, nq0, hk, rfl, rfl⟩ := hrel
    by_cases hlt : k < m
    · have hs := HS.out; have hp := HP.out; have he := HE.out
      have hl2 := hp.len; have hl1 := hs.len
      obtain rfl := hs.addr (by omega)
      obtain rfl := hp.addr (by omega)
      obtain ⟨c, hcv⟩ : ∃ c : Int, c = (lp[k]).toNat := ⟨_, rfl⟩
      have hc2 : w.cell? ⟨g2, o2 + k, none⟩ = some (.int .u8 c) := by rw [hcv]; exact hp.cell k (by omega)
      have hc1 : w.cell? ⟨g, o + k, none⟩ = some (.int .u8 c) := by
        have h := hs.cell k (by omega)
        have e : ls[k]'(by omega) = lp[k]'(by omega) := by
          subst he
          exact List.getElem_append_left (by omega)
        rw [hcv, ← e]; exact h
      have hkn : (k : Int) < (n : Int) := by omega
      have hkm : (k : Int) < (m : Int) := by omega
      clear hs hp he hl1 hl2 hcv
      go_wp2
      go_quiet (fail)
      go_wp2
      go_roundw
      case rel => exact ⟨k + 1, _, by omega, by go_num, rfl⟩
      case measure => simp [intOf]; omega
    · go_wp2
      go_ret
      exact ⟨rfl, _, rfl⟩

theorem zb_any (a1 a2 : Value) (ao : Option Addr) (n c : Nat) (w : World) (hn : n ≤ 9223372036854775807) :
    Calls Try.prog 6 #[.slice ao n c, a1, a2] w fun e w' => e = .returned (.bool (decide (n ≤ 1048576))) ∧ w' = w := by
  by_cases c1 : n ≤ 1048576
  · go_enter Try.func6, Try.ntmps6
    go_wp2
    go_ret
    exact ⟨by rw [decide_eq_true c1]; rfl, rfl⟩
  · go_enter Try.func6, Try.ntmps6
    go_wp2
    go_ret
    exact ⟨by rw [decide_eq_false c1]; rfl, rfl⟩

/-- WHAT THE WALK IS TOLD OF A SLICE OF INTEGERS THAT CAME IN. -/
def IsRow (k : IntKind) (w : World) (a : Option Addr) (len cap : Nat) (zs : List Int) : Prop :=
  (a = none ∧ len = 0 ∧ cap = 0 ∧ zs = []) ∨
  ∃ x, a = some x ∧ len ≤ cap ∧ cap ≤ maxLen ∧ zs.length = cap ∧ (∀ i, i < zs.length → w.cell? (x.add i) = some (.int k (zs.getD i 0))) ∧ ∀ n ∈ zs, (Lit.int k n).wf = true

theorem Bytes.ofRow {w : World} {a : Option Addr} {len cap : Nat} {zs : List Int} (h : IsRow .u8 w a len cap zs) : ∃ g o l, Bytes w a g o len l ∧ len ≤ 9223372036854775807 := by
  rcases h with ⟨rfl, rfl, rfl, rfl⟩ | ⟨x, rfl, hlc, hm, hz, hcell, hwf⟩
  · exact ⟨0, 0, [], ⟨rfl, fun h => absurd h (by omega), fun j hj => absurd hj (by simp)⟩, by omega⟩
  · unfold maxLen at hm
    rcases Nat.eq_zero_or_pos len with h0 | h0
    · subst h0
      exact ⟨0, 0, [], ⟨rfl, fun h => absurd h (by omega), fun j hj => absurd hj (by simp)⟩, by omega⟩
    · obtain ⟨b, off, spot⟩ := x
      have hspot : spot = none := by simpa [Addr.add] using World.cell?_spot (hcell 0 (by omega))
      subst hspot
      refine ⟨b, off, (zs.take len).map (fun z => z.toNat.toUInt8), ⟨by simp; omega, fun _ => rfl, fun j hj => ?_⟩, by omega⟩
      have hj' : j < zs.length := by simp at hj; omega
      have h1 := hcell j hj'
      rw [Addr.add_lit] at h1
      rw [h1]
      have h2 : zs.getD j 0 = zs[j] := by simp [List.getD, hj']
      have h3 := hwf zs[j] (List.getElem_mem hj')
      have h4 : IntKind.u8.min ≤ zs[j] ∧ zs[j] ≤ IntKind.u8.max := by simpa [Lit.wf] using h3
      have e1 : IntKind.u8.min = 0 := by decide
      have e2 : IntKind.u8.max = 255 := by decide
      rw [h2]
      congr 2
      simp only [List.getElem_map, List.getElem_take]
      rw [u8z (by omega)]
      omega

theorem below_drewN {B : Nat} {a w : World} (h : Below B a w) (n : Nat) : Below B a (w.drewN n) := ⟨h.os, h.tape, h.output, h.size, h.block⟩

theorem Bytes.drewN {w : World} {ao : Option Addr} {g o n : Nat} {l : List UInt8} (h : Bytes w ao g o n l) (m : Nat) : Bytes (w.drewN m) ao g o n l := h.carry fun _ => rfl

theorem Kept.box {B : Nat} {w w1 : World} {cs : Array Value} {t : TypeId} (h : Kept B (w.alloc (.cells cs t)) w1) (ht : t ≠ 5) : w1.heap[w.heap.size]? = some (.cells cs t (0, 0)) := by
  have e : (w.alloc (.cells cs t)).heap[w.heap.size]? = some (.cells cs t (0, 0)) := heap_alloc_new w _
  rw [h.other w.heap.size (by simp) (fun cur fz hc => by rw [e] at hc; injection hc with hc; injection hc with _ h2 _; exact ht h2), e]

theorem Kept.boxCell {B : Nat} {w w1 : World} {cs : Array Value} {t : TypeId} (h : Kept B (w.alloc (.cells cs t)) w1) (ht : t ≠ 5) (j : Nat) : w1.cell? ⟨w.heap.size, j, none⟩ = cs[j]? :=
  cell_of_row w1 w.heap.size j cs t (0, 0) (h.box ht)

theorem uvl (x : Int) (h0 : 0 ≤ x) (h1 : x < 18446744073709551616) : 1 ≤ (Lib.uvarint x.toNat).length ∧ (Lib.uvarint x.toNat).length ≤ 10 :=
  ⟨Lib.uvarint_pos _, Lib.uvarint_length64 (by omega)⟩

theorem ownsRow_mono' {w : World} {base base' : Nat} {e : TypeId} {size : Nat} {v : Value} {n : Nat} {xs : List Value} (h : w.ownsRow base e size v n xs) (hb : base' ≤ base) : w.ownsRow base' e size v n xs := by
  refine ⟨h.1, ?_⟩
  rcases h.2 with h1 | ⟨g, cap, cur, h1, h2, h3⟩
  · exact .inl h1
  · exact .inr ⟨g, cap, cur, h1, Nat.le_trans hb h2, h3⟩

/-! AppendUvarint onto a row WITHOUT SPARE ROOM (whatever row: the caller's too): what was there has not turned; the answer is a row of the call's own. -/
set_option maxHeartbeats 1000000 in
set_option maxRecDepth 100000 in
theorem uvf_aux (B : Nat) (ao : Option Addr) (g o n x : Nat) (hx : x < 18446744073709551616) (l : List UInt8) (w : World) (HY : Hid (Bytes w ao g o n l)) (HW : Hid (B = w.heap.size)) (hlim : n ≤ 1048576) :
    Calls Try.prog 30 #[.slice ao n n, .int .u64 x] w fun e w' => ∃ v', e = .returned v' ∧ w'.ownsRow B 5 1 v' (n + (Lib.uvarint x).length) (Lib.byteCells (l ++ Lib.uvarint x)) ∧ Below B w w' := by
  obtain ⟨i0, hi, hz0, hz1, hz2⟩ := info_parts Try.info5
  have hlen := Lib.uvarint_length64 hx
  go_enter Try.func30, Try.ntmps30
  go_wp2
  go_loopw [0, 1] (fun vb vx wr => ∃ (y : Nat) (pre : List UInt8), vx = .int .u64 y ∧ y ≤ x ∧ Hid (Lib.uvarint x = pre ++ Lib.uvarint y) ∧ ((pre = [] ∧ vb = .slice ao n n) ∨ Hid (wr.ownsRow B 5 1 vb (n + pre.length) (Lib.byteCells (l ++ pre)))) ∧ Hid (Below B w wr))
    (fun _ vx _ => (intOf vx).toNat)
  case atStart => exact ⟨x, [], rfl, Nat.le_refl _, rfl, .inl ⟨rfl, rfl⟩, Below.refl _ _⟩
  case round =>
    obtain ⟨y, pre, rfl, hy, HSP, hst, HBL⟩ := hrel
    have hpl : pre.length + (Lib.uvarint y).length ≤ 10 := by
      have h2 := congrArg List.length HSP.out
      rw [List.length_append] at h2
      omega
    have hyp := Lib.uvarint_pos y
    have hsz := HBL.out.size
    have hBr : B ≤ wr.heap.size := by have := HW.out; omega
    have hnone : ao = none → n = 0 ∧ n = 0 := fun e => by
      rcases Nat.eq_zero_or_pos n with h | h
      · exact ⟨h, h⟩
      · exact absurd (HY.out.addr h) (by rw [e]; simp)
    have HNONE : Hid (ao = none → n = 0 ∧ n = 0) := hnone
    have HOLD : Hid (∀ o', ∀ b, ao = some b → ∀ j u, (Lib.byteCells l)[j]? = some u → (wr.alloc o').cell? (b.add j) = some u) := by
      intro o' b hb j u hu
      have hj : j < l.length := by have := (List.getElem?_eq_some_iff.1 hu).1; rwa [byteCells_length] at this
      have hl := HY.out.len
      have e := HY.out.addr (by omega)
      rw [hb] at e
      obtain rfl := Option.some.inj e
      rw [Addr.add_lit]
      have hgB : g < B := by have := HY.out.lt (by omega); have := HW.out; omega
      have h1 : (wr.alloc o').cell? ⟨g, o + j, none⟩ = w.cell? ⟨g, o + j, none⟩ := ((HBL.out.alloc hBr o').cell (p := ⟨g, o + j, none⟩) hgB)
      rw [h1, HY.out.cell j hj, ← hu, byteCells_getElem? l j hj]
    have HLL : Hid ((Lib.byteCells l).length = n * 1) := by show _ = _; rw [byteCells_length, HY.out.len, Nat.mul_one]
    clear hnone
    by_cases h128 : 128 ≤ y
    · have hor : bits .or .u8 ((y : Int) % 256) 128 = ((y % 128 + 128 : Nat) : Int) := by
        rw [Lib.u8_or128_any _ (by omega) (by omega)]
        omega
      have HSP2 : Hid (Lib.uvarint x = (pre ++ [(y % 128 + 128).toUInt8]) ++ Lib.uvarint (y / 128)) := by
        show _ = _
        rw [HSP.out, Lib.uvarint_big h128]; simp
      rcases hst with ⟨rfl, rfl⟩ | HO
      · go_wp2_with (at_builtin; refine wpList_append_grows _ rfl _ _ 22 rfl 5 i0 (.int .u8 0) 1 1 Try.underlying22 hi hz0 hz1 hz2 rfl (by decide) ao n n (Lib.byteCells l) rfl HNONE.out HLL.out (HOLD.out _) ⟨wr.heap.size, 0, none⟩ 1 1 [Value.int .u8 ((y % 128 + 128 : Nat) : Int)] rfl rfl ?c1 ?c2 (by omega) ?c3 ?c4 ?_)
        case c1 =>
          intro j u hj
          match j, hj with
          | 0, hj => simp at hj; subst hj; simp [Addr.add]
        case c2 => intro u hu; simp at hu; subst hu; rfl
        case c3 => unfold maxLen; omega
        case c4 => omega
        intro v' w1 hown' hgrow
        have HB1 : Hid (Below B w w1) := (HBL.out.alloc hBr _).grown hgrow (by simp; omega) (fun k hk => by simp at hk)
        have HO1 : Hid (w1.ownsRow B 5 1 v' (n + ([] ++ [(y % 128 + 128).toUInt8] : List UInt8).length) (Lib.byteCells (l ++ ([] ++ [(y % 128 + 128).toUInt8])))) := by
          have h := ownsRow_mono' (base' := B) hown' (by first | omega | (simp; omega))
          show World.ownsRow _ _ _ _ _ _ _
          rw [List.nil_append, Lib.byteCells_snoc l (by omega)]
          have ec : ((y % 128 + 128 : Nat) : Int) = (y : Int) % 128 + 128 := by omega
          first | exact h | (rw [ec] at h; exact h) | (rw [ec]; exact h)
        clear hown' hgrow
        go_wp2
        go_roundw
        case rel => exact ⟨y / 128, _, by go_num, by omega, HSP2, .inr HO1, HB1⟩
        case measure => simp [intOf]; omega
      · go_wp2_with (at_builtin; refine wpList_append_own _ rfl _ _ 22 rfl B 5 i0 (.int .u8 0) 1 1 Try.underlying22 hi hz0 hz1 hz2 rfl (by decide) _ _ _ rfl (HO.out.alloc _) ⟨wr.heap.size, 0, none⟩ 1 1 [Value.int .u8 ((y % 128 + 128 : Nat) : Int)] rfl rfl ?d1 ?d2 ?d3 ?d4 ?d5 ?_)
        case d1 =>
          intro j u hj
          match j, hj with
          | 0, hj => simp at hj; subst hj; simp [Addr.add]
        case d2 => intro u hu; simp at hu; subst hu; rfl
        case d3 => unfold maxLen; omega
        case d4 => omega
        case d5 => simp; omega
        intro v' w1 hown' hgrow _
        have HB1 : Hid (Below B w w1) := (HBL.out.alloc hBr _).grown hgrow (by simp; omega) (fun k hk => (HO.out.lt k hk).1)
        have HO1 : Hid (w1.ownsRow B 5 1 v' (n + (pre ++ [(y % 128 + 128).toUInt8]).length) (Lib.byteCells (l ++ (pre ++ [(y % 128 + 128).toUInt8])))) := by
          show World.ownsRow _ _ _ _ _ _ _
          rw [← List.append_assoc, Lib.byteCells_snoc (l ++ pre) (by omega), List.length_append, List.length_singleton, ← Nat.add_assoc]
          have ec : ((y % 128 + 128 : Nat) : Int) = (y : Int) % 128 + 128 := by omega
          first | exact hown' | (rw [ec] at hown'; exact hown') | (rw [ec]; exact hown')
        clear hown' hgrow
        go_wp2
        go_roundw
        case rel => exact ⟨y / 128, _, by go_num, by omega, HSP2, .inr HO1, HB1⟩
        case measure => simp [intOf]; omega
    · have hsm : Lib.uvarint y = [y.toUInt8] := Lib.uvarint_small (by omega)
      have HSM : Hid (Lib.uvarint x = pre ++ [y.toUInt8]) := by show _ = _; rw [HSP.out, hsm]
      clear hsm
      rcases hst with ⟨rfl, rfl⟩ | HO
      · go_wp2_with (at_builtin; refine wpList_append_grows _ rfl _ _ 22 rfl 5 i0 (.int .u8 0) 1 1 Try.underlying22 hi hz0 hz1 hz2 rfl (by decide) ao n n (Lib.byteCells l) rfl HNONE.out HLL.out (HOLD.out _) ⟨wr.heap.size, 0, none⟩ 1 1 [Value.int .u8 (y : Int)] rfl rfl ?e1 ?e2 (by omega) ?e3 ?e4 ?_)
        case e1 =>
          intro j u hj
          match j, hj with
          | 0, hj => simp at hj; subst hj; simp [Addr.add]
        case e2 => intro u hu; simp at hu; subst hu; rfl
        case e3 => unfold maxLen; omega
        case e4 => omega
        intro v' w1 hown' hgrow
        have HB1 : Hid (Below B w w1) := (HBL.out.alloc hBr _).grown hgrow (by simp; omega) (fun k hk => by simp at hk)
        have HO1 : Hid (w1.ownsRow B 5 1 v' (n + (Lib.uvarint x).length) (Lib.byteCells (l ++ Lib.uvarint x))) := by
          have h := ownsRow_mono' (base' := B) hown' (by first | omega | (simp; omega))
          show World.ownsRow _ _ _ _ _ _ _
          rw [HSM.out, List.nil_append, Lib.byteCells_snoc l (by omega)]
          exact h
        clear hown' hgrow
        go_wp2
        go_ret
        exact ⟨v', rfl, HO1.out, HB1.out⟩
      · go_wp2_with (at_builtin; refine wpList_append_own _ rfl _ _ 22 rfl B 5 i0 (.int .u8 0) 1 1 Try.underlying22 hi hz0 hz1 hz2 rfl (by decide) _ _ _ rfl (HO.out.alloc _) ⟨wr.heap.size, 0, none⟩ 1 1 [Value.int .u8 (y : Int)] rfl rfl ?f1 ?f2 ?f3 ?f4 ?f5 ?_)
        case f1 =>
          intro j u hj
          match j, hj with
          | 0, hj => simp at hj; subst hj; simp [Addr.add]
        case f2 => intro u hu; simp at hu; subst hu; rfl
        case f3 => unfold maxLen; omega
        case f4 => omega
        case f5 => simp; omega
        intro v' w1 hown' hgrow _
        have HB1 : Hid (Below B w w1) := (HBL.out.alloc hBr _).grown hgrow (by simp; omega) (fun k hk => (HO.out.lt k hk).1)
        have HO1 : Hid (w1.ownsRow B 5 1 v' (n + (Lib.uvarint x).length) (Lib.byteCells (l ++ Lib.uvarint x))) := by
          show World.ownsRow _ _ _ _ _ _ _
          rw [HSM.out, ← List.append_assoc, Lib.byteCells_snoc (l ++ pre) (by omega), List.length_append, List.length_singleton, ← Nat.add_assoc]
          exact hown'
        clear hown' hgrow
        go_wp2
        go_ret
        exact ⟨v', rfl, HO1.out, HB1.out⟩

#print axioms uvf_aux
end Go.Proofs.Qxb6604761a
