/-
  SEAT b6604373a. THE WALK OF FnPayloadAppendToRoundTrip (7).
-/
import Derived.Test.Qxb6604373aPay
namespace Go.Proofs.Qxb6604373a
open Go.RowKit
set_option linter.unusedVariables false

/-- WHAT THE WALK IS TOLD OF A SLICE OF INTEGERS THAT CAME IN. -/
def IsRow (k : IntKind) (w : World) (a : Option Addr) (len cap : Nat) (zs : List Int) : Prop :=
  (a = none ∧ len = 0 ∧ cap = 0 ∧ zs = []) ∨
  ∃ x, a = some x ∧ len ≤ cap ∧ cap ≤ maxLen ∧ zs.length = cap ∧ (∀ i, i < zs.length → w.cell? (x.add i) = some (.int k (zs.getD i 0))) ∧ ∀ n ∈ zs, (Lit.int k n).wf = true

theorem Bytes.ofRow {w : World} {a : Option Addr} {len cap : Nat} {zs : List Int} (h : IsRow .u8 w a len cap zs) : ∃ g o l, Bytes w a g o len l ∧ len ≤ 9223372036854775807 := by
  rcases h with ⟨rfl, rfl, rfl, rfl⟩ | ⟨x, rfl, hlc, hm, hz, hcell, hwf⟩
  · exact ⟨0, 0, [], ⟨rfl, fun h => absurd h (by omega), fun j hj => absurd hj (by simp)⟩, by omega⟩
  · unfold maxLen at hm
    rcases Nat.eq_zero_or_pos len with h0 | h0
    · subst h0
      exact ⟨0, 0, [], ⟨rfl, fun h => absurd h (by omega), fun j hj => absurd hj (by simp)⟩, by omega⟩
    · obtain ⟨b, off, spot⟩ := x
      have hspot : spot = none := by simpa [Addr.add] using World.cell?_spot (hcell 0 (by omega))
      subst hspot
      refine ⟨b, off, (zs.take len).map (fun z => z.toNat.toUInt8), ⟨by simp; omega, fun _ => rfl, fun j hj => ?_⟩, by omega⟩
      have hj' : j < zs.length := by simp at hj; omega
      have h1 := hcell j hj'
      rw [Addr.add_lit] at h1
      rw [h1]
      have h2 : zs.getD j 0 = zs[j] := by simp [List.getD, hj']
      have h3 := hwf zs[j] (List.getElem_mem hj')
      have h4 : IntKind.u8.min ≤ zs[j] ∧ zs[j] ≤ IntKind.u8.max := by simpa [Lit.wf] using h3
      have e1 : IntKind.u8.min = 0 := by decide
      have e2 : IntKind.u8.max = 255 := by decide
      rw [h2]
      congr 2
      simp only [List.getElem_map, List.getElem_take]
      rw [u8z (by omega)]
      omega

theorem below_drewN {B : Nat} {a w : World} (h : Below B a w) (n : Nat) : Below B a (w.drewN n) := ⟨h.os, h.tape, h.output, h.size, h.block⟩

theorem Bytes.drewN {w : World} {ao : Option Addr} {g o n : Nat} {l : List UInt8} (h : Bytes w ao g o n l) (m : Nat) : Bytes (w.drewN m) ao g o n l := h.carry fun _ => rfl

theorem i64_back (s : Int) (h : (Lit.int .i64 s).wf = true) : IntKind.i64.wrap ((IntKind.u64.wrap s).toNat : Int) = s := by
  have h4 : IntKind.i64.min ≤ s ∧ s ≤ IntKind.i64.max := by simpa [Lit.wf] using h
  have e1 : IntKind.i64.min = -9223372036854775808 := by decide
  have e2 : IntKind.i64.max = 9223372036854775807 := by decide
  rw [Int.toNat_of_nonneg (u64_lo s), IntKind.wrap_u64, IntKind.wrap_i64]
  omega

theorem u64_bd (q : Int) (h : (Lit.int .u64 q).wf = true) : 0 ≤ q ∧ q < 18446744073709551616 := by
  have h4 : IntKind.u64.min ≤ q ∧ q ≤ IntKind.u64.max := by simpa [Lit.wf] using h
  have e1 : IntKind.u64.min = 0 := by decide
  have e2 : IntKind.u64.max = 18446744073709551615 := by decide
  omega

set_option maxHeartbeats 2000000 in
set_option maxRecDepth 100000 in
theorem law1 (a0 a1 : Int) (a2 : Option Addr) (len2 cap2 : Nat) (a3 : Option Addr) (len3 cap3 : Nat) (w : World) (w0 : (Lit.int .i64 a0).wf = true) (w1 : (Lit.int .u64 a1).wf = true)
    (g2 o2 : Nat) (l2 : List UInt8) (hb2 : Bytes w a2 g2 o2 len2 l2) (hm2 : len2 ≤ 9223372036854775807) (g3 o3 : Nat) (l3 : List UInt8) (hb3 : Bytes w a3 g3 o3 len3 l3) (hm3 : len3 ≤ 9223372036854775807) :
    Calls Try.prog 7 #[.int .i64 a0, .int .u64 a1, .slice a2 len2 cap2, .slice a3 len3 cap3] w fun e w' => e = .returned (.bool true) ∧ Below w.heap.size w w' := by
  have hq := u64_bd a1 w1
  have HB : Hid (IntKind.i64.wrap ((IntKind.u64.wrap a0).toNat : Int) = a0) := i64_back a0 w0
  have hx0 : (IntKind.u64.wrap a0).toNat < 18446744073709551616 := by have := u64_hi a0; have := u64_lo a0; omega
  have H2 : Hid (Bytes w a2 g2 o2 len2 l2) := hb2
  have H3 : Hid (Bytes w a3 g3 o3 len3 l3) := hb3
  clear hb2 hb3 w0 w1
  have hz := zb1_any (.int .i64 a0) (.int .u64 a1) a2 a3 len2 cap2 len3 cap3 w hm2 hm3
  by_cases ht : len2 + len3 ≤ 1048576
  · rw [decide_eq_true ht] at hz
    by_cases c3 : len3 ≤ 524288
    · by_cases c2 : len2 ≤ 524288
      · go_enter Try.func7, Try.ntmps7
        go_wp2_with fail
        refine hz.mono ?_
        rintro e wz ⟨rfl, hwz⟩; subst wz
        clear hz
        go_wp2_with fail
        -- b = zzCloneBytes(b)
        refine (clone_any a3 g3 o3 len3 cap3 l3 w H3.out (by omega)).mono ?_
        rintro e w1 ⟨vb, rfl, ob, bb⟩
        obtain ⟨ab, gb, cb, rfl, yb, lob, ncb⟩ := Bytes.own ob
        have z1 := bb.size
        have tb : 0 < len3 → gb < w1.heap.size := fun h => yb.lt h
        have H2b : Hid (Bytes w1 a2 g2 o2 len2 l2) := H2.out.below bb (fun h => H2.out.lt h)
        have YB : Hid (Bytes w1 ab gb 0 len3 l3) := yb
        clear ob yb H2 H3
        go_wp2_with fail
        -- data = zzCloneBytes(data)
        refine (clone_any a2 g2 o2 len2 cap2 l2 w1 H2b.out (by omega)).mono ?_
        rintro e w2 ⟨vd, rfl, od, bd⟩
        obtain ⟨ad, gd, cd, rfl, yd, lod, ncd⟩ := Bytes.own od
        have z2 := bd.size
        have YB2 : Hid (Bytes w2 ab gb 0 len3 l3) := YB.out.below bd tb
        clear od yd H2b YB lod
        go_wp2_with fail
        -- work := zzCloneBytes(b)
        refine (clone_any ab gb 0 len3 cb l3 w2 YB2.out (by omega)).mono ?_
        rintro e w3 ⟨vw, rfl, ow, bw⟩
        have z3 := bw.size
        have tb2 : 0 < len3 → gb < w2.heap.size := fun h => by have := tb h; omega
        have YB3 : Hid (Bytes w3 ab gb 0 len3 l3) := YB2.out.below bw tb2
        clear YB2
        go_wp2_with fail
        -- got := ZZPayloadAppendTo(sender, seq, data, work)
        refine (zzpay_any w2.heap.size len3 a0 a1 hq.1 hq.2 ad len2 cd (by omega) vw l3 w3 ow z3 (by omega)).mono ?_
        rintro e w4 ⟨vg, rfl, og, kg⟩
        obtain ⟨ag, gg, cg, rfl, yg, log, ncg⟩ := Bytes.own og
        have z4 := kg.below.size
        have YB4 : Hid (Bytes w4 ab gb 0 len3 l3) := YB3.out.below kg.below tb2
        have hpl : 3 ≤ (payBytes a0 a1 len2).length ∧ (payBytes a0 a1 len2).length ≤ 30 := by
          have h1 := idBytes_len a0 a1 hq.1 hq.2
          have h2 := Lib.uvarint_pos len2
          have h3 := Lib.uvarint_length64 (x := len2) (by omega)
          unfold payBytes
          rw [List.length_append]
          omega
        have bel : Below w.heap.size w w4 := bb.trans ((bd.mono z1).trans ((bw.mono (by omega)).trans (kg.below.mono (by omega))))
        have YG : Hid (Bytes w4 ag gg 0 (len3 + (payBytes a0 a1 len2).length) (l3 ++ payBytes a0 a1 len2)) := yg
        clear og kg yg YB3 ow bb bd bw log ncg
        obtain ⟨T, hT⟩ : ∃ T, T = (payBytes a0 a1 len2).length := ⟨_, rfl⟩
        rw [← hT] at YG hpl ⊢
        have HT : Hid (T = (payBytes a0 a1 len2).length) := hT
        clear hT
        go_wp2_with fail
        refine (pre_any ag gg 0 _ cg _ ab gb 0 len3 cb l3 w4 YG.out YB4.out (by omega) (payBytes a0 a1 len2) rfl).mono ?_
        rintro e w5 ⟨rfl, nq, rfl⟩
        -- the three numbers, read back
        have hP0 : len3 = l3.length := YB4.out.len.symm
        have hpb : payBytes a0 a1 len2 = Lib.uvarint (IntKind.u64.wrap a0).toNat ++ (Lib.uvarint a1.toNat ++ Lib.uvarint len2) := by unfold payBytes idBytes; rw [List.append_assoc]
        have D1 : Hid ((l3 ++ payBytes a0 a1 len2).drop len3 = Lib.uvarint (IntKind.u64.wrap a0).toNat ++ (Lib.uvarint a1.toNat ++ Lib.uvarint len2)) := by
          show _ = _
          rw [hP0, List.drop_left, hpb]
        obtain ⟨x0, hx0v⟩ : ∃ x0, x0 = (IntKind.u64.wrap a0).toNat := ⟨_, rfl⟩
        rw [← hx0v] at D1 HB hx0 hpb
        obtain ⟨P1, hP1⟩ : ∃ P1, P1 = len3 + (Lib.uvarint x0).length := ⟨_, rfl⟩
        have D2 : Hid ((l3 ++ payBytes a0 a1 len2).drop P1 = Lib.uvarint a1.toNat ++ Lib.uvarint len2) := by
          show _ = _
          rw [hP1, ← List.drop_drop, D1.out, List.drop_left]
        obtain ⟨P2, hP2⟩ : ∃ P2, P2 = P1 + (Lib.uvarint a1.toNat).length := ⟨_, rfl⟩
        have D3 : Hid ((l3 ++ payBytes a0 a1 len2).drop P2 = Lib.uvarint len2 ++ []) := by
          show _ = _
          rw [hP2, ← List.drop_drop, D2.out, List.drop_left, List.append_nil]
        obtain ⟨P3, hP3⟩ : ∃ P3, P3 = P2 + (Lib.uvarint len2).length := ⟨_, rfl⟩
        have hend : P3 = len3 + T := by
          have h1 := HT.out
          rw [hpb, List.length_append, List.length_append] at h1
          omega
        have HE : Hid (P3 = len3 + T) := hend
        have R1 := rd_any ag gg 0 _ cg _ (w4.drewN nq) (YG.out.drewN nq) (by omega) len3 x0 _ D1.out hx0
        have R2 := rd_any ag gg 0 _ cg _ (w4.drewN nq) (YG.out.drewN nq) (by omega) P1 a1.toNat _ D2.out (by omega)
        have R3 := rd_any ag gg 0 _ cg _ (w4.drewN nq) (YG.out.drewN nq) (by omega) P2 len2 _ D3.out (by omega)
        rw [← hP1] at R1
        rw [← hP2, show ((a1.toNat : Nat) : Int) = a1 by omega] at R2
        rw [← hP3, hend] at R3
        clear D1 D2 D3 hP1 hP2 hP3 hend hpb hP0 hx0v YG YB4 HT HE
        go_wp2_with fail
        refine R1.mono ?_
        rintro e w6 ⟨rfl, hw6⟩; subst w6
        clear R1
        have hwr := HB.out
        go_wp2_with fail
        refine R2.mono ?_
        rintro e w6 ⟨rfl, hw6⟩; subst w6
        clear R2
        go_wp2_with fail
        refine R3.mono ?_
        rintro e w6 ⟨rfl, hw6⟩; subst w6
        clear R3 hwr
        go_wp2_with fail
        go_ret
        exact ⟨by simp, below_drewN bel nq⟩
      · go_enter Try.func7, Try.ntmps7
        go_wp2_with fail
        refine hz.mono ?_
        rintro e wz ⟨rfl, hwz⟩; subst wz
        clear hz
        go_wp2
        go_ret
        exact ⟨rfl, Below.refl _ _⟩
    · go_enter Try.func7, Try.ntmps7
      go_wp2_with fail
      refine hz.mono ?_
      rintro e wz ⟨rfl, hwz⟩; subst wz
      clear hz
      go_wp2
      go_ret
      exact ⟨rfl, Below.refl _ _⟩
  · rw [decide_eq_false ht] at hz
    go_enter Try.func7, Try.ntmps7
    go_wp2_with fail
    refine hz.mono ?_
    rintro e wz ⟨rfl, hwz⟩; subst wz
    clear hz
    go_wp2
    go_ret
    exact ⟨rfl, Below.refl _ _⟩

#print axioms law1
end Go.Proofs.Qxb6604373a
