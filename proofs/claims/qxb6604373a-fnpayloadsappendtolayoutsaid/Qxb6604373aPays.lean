/-
  SEAT b6604373a. payloads.appendTo (30), ZZPayloadsAppendTo (24).
-/
import Derived.Test.Qxb6604373aLists
import Derived.Laws.AppendOwnNone
namespace Go.Proofs.Qxb6604373a
open Go.RowKit
set_option linter.unusedVariables false

/-- The bytes of the first k payloads: each one's length and its bytes. -/
def body (D : Nat → Item) : Nat → List UInt8
  | 0 => []
  | k + 1 => body D k ++ (Lib.uvarint (D k).n ++ (D k).l)

theorem body_congr (D D' : Nat → Item) : ∀ k, (∀ j, j < k → (D' j).n = (D j).n ∧ (D' j).l = (D j).l) → body D' k = body D k
  | 0, _ => rfl
  | k + 1, h => by
    show body D' k ++ (Lib.uvarint (D' k).n ++ (D' k).l) = body D k ++ (Lib.uvarint (D k).n ++ (D k).l)
    rw [body_congr D D' k (fun j hj => h j (by omega)), (h k (by omega)).1, (h k (by omega)).2]

theorem body_len (D : Nat → Item) : ∀ k, (∀ j, j < k → (D j).n ≤ 1048576 ∧ (D j).l.length = (D j).n) → (body D k).length ≤ 10 * k + sumN D k
  | 0, _ => by simp [body]
  | k + 1, h => by
    have h1 := body_len D k (fun j hj => h j (by omega))
    have h2 := Lib.uvarint_length64 (x := (D k).n) (by have := (h k (by omega)).1; omega)
    have h3 := (h k (by omega)).2
    show (body D k ++ (Lib.uvarint (D k).n ++ (D k).l)).length ≤ 10 * (k + 1) + (sumN D k + (D k).n)
    rw [List.length_append, List.length_append]
    omega

/-- What lies ahead of the payloads. -/
def headBytes (s q : Int) (m : Nat) : List UInt8 := payBytes s q m

theorem headBytes_len (s q : Int) (h0 : 0 ≤ q) (h1 : q < 18446744073709551616) (m : Nat) (hm : m ≤ 1048576) : (headBytes s q m).length ≤ 30 := by
  have a := idBytes_len s q h0 h1
  have b := Lib.uvarint_length64 (x := m) (by omega)
  unfold headBytes payBytes
  rw [List.length_append]
  omega

set_option maxHeartbeats 2000000 in
set_option maxRecDepth 100000 in
theorem pays_any (B n : Nat) (s q : Int) (h0 : 0 ≤ q) (h1 : q < 18446744073709551616) (ao : Option Addr) (g o m c : Nat) (D : Nat → Item) (hm : m ≤ 1048576) (sv : Value) (l : List UInt8) (wl w : World) (HL : Hid (Lists wl ao g o m D)) (HB : Hid (wl.heap.size = B)) (hlw : Below B wl w)
    (hown : w.ownsRow B 5 1 sv n (Lib.byteCells l)) (hBw : B ≤ w.heap.size) (hlim : n + 24 * m + sumN D m ≤ 1048576) :
    Calls Try.prog 30 #[.agg #[.int .i64 s, .int .u64 q, .slice ao m c], sv] w fun e w' => ∃ v', e = .returned v' ∧ w'.ownsRow B 5 1 v' (n + (headBytes s q m ++ body D m).length) (Lib.byteCells (l ++ (headBytes s q m ++ body D m))) ∧ Kept B w w' := by
  obtain ⟨i0, hi, hz0, hz1, hz2⟩ := info_parts Try.info5
  have hu := idBytes_len s q h0 h1
  have hh := headBytes_len s q h0 h1 m hm
  have hDl : ∀ j, j < m → (D j).n ≤ 1048576 ∧ (D j).l.length = (D j).n := fun j hj => by
    have a := sumN_mono D (j + 1) m (by omega)
    have b : sumN D (j + 1) = sumN D j + (D j).n := rfl
    exact ⟨by omega, (HL.out.item j hj).len⟩
  have HD : Hid (∀ j, j < m → (D j).n ≤ 1048576 ∧ (D j).l.length = (D j).n) := hDl
  clear hDl
  go_enter Try.func30, Try.ntmps30
  go_wp2_with fail
  refine (id_any B n s q h0 h1 sv l _ (hown.alloc _) (by simp; omega) (by omega)).mono ?_
  rintro e w1 ⟨v1, rfl, ho1, hk1⟩
  have hc1 := hk1.boxCell (by decide) 2
  have hbx := hk1.box (by decide)
  have hz : B ≤ w1.heap.size := by have := hk1.below.size; simp at this; omega
  have hbs : w.heap.size < w1.heap.size := by have := hk1.below.size; simp at this; omega
  have hk : Kept B w w1 := ((Kept.refl B w).alloc hBw _).trans hk1
  clear hk1
  go_wp2_with fail
  refine (uv_any B _ (m : Int) (by omega) (by omega) v1 _ w1 ho1 hz (by omega)).mono ?_
  rintro e w2 ⟨v2, rfl, ho2, hk2⟩
  have hc2 : w2.cell? ⟨w.heap.size, 2, none⟩ = some (.slice ao m c) := by
    rw [hk2.cell (p := ⟨w.heap.size, 2, none⟩) hbs (fun cur fz h => by
      have h' : w1.heap[w.heap.size]? = some (.cells cur 5 fz) := h
      rw [hbx] at h'; injection h' with h'; injection h' with _ h2 _; exact absurd h2 (by decide))]
    exact hc1
  have ho2' : w2.ownsRow B 5 1 v2 (n + (headBytes s q m ++ body D 0).length) (Lib.byteCells (l ++ (headBytes s q m ++ body D 0))) := by
    have e : headBytes s q m ++ body D 0 = idBytes s q ++ Lib.uvarint m := by unfold headBytes payBytes body; simp
    rw [e, List.length_append, ← Nat.add_assoc, ← List.append_assoc, Lib.byteCells_append]
    exact ho2
  have hk' : Kept B w w2 := hk.trans hk2
  clear hc1 hbx ho1 ho2 hk hk2 hz hbs hown
  go_wp2_with fail
  go_loopw [1, 20] (fun vb vi wr => ∃ k : Nat, k ≤ m ∧ vi = .int .i64 k ∧ wr.ownsRow B 5 1 vb (n + (headBytes s q m ++ body D k).length) (Lib.byteCells (l ++ (headBytes s q m ++ body D k))) ∧ Kept B w wr) (fun _ vi _ => m - (intOf vi).toNat)
  case atStart => exact ⟨0, by omega, rfl, ho2', hk'⟩
  case round =>
    obtain ⟨k, hkm, rfl, ho, hkr⟩ := hrel
    clear ho2' hk' hc2
    by_cases hlt : k < m
    · have hl : Lists wr ao g o m D := HL.out.below (hlw.trans hkr.below) (by have := HB.out; omega)
      obtain rfl := hl.addr (by omega)
      have hc := hl.cell k hlt
      have hit := hl.item k hlt
      have hkm' : (k : Int) < (m : Int) := by omega
      have hdk := (HD.out k hlt).1
      have hbl := body_len D k (fun j hj => HD.out j (by omega))
      have hsm := sumN_mono D (k + 1) m (by omega)
      have hss : sumN D (k + 1) = sumN D k + (D k).n := rfl
      have hzr := hkr.below.size
      have hin : ((D k).n : Int) ≤ 1048576 := by omega
      have hla : (headBytes s q m ++ body D k).length ≤ 30 + 10 * k + sumN D k := by rw [List.length_append]; omega
      obtain ⟨N, hN⟩ : ∃ N, N = n + (headBytes s q m ++ body D k).length := ⟨_, rfl⟩
      rw [← hN] at ho
      have hNb : N ≤ 2000000 := by omega
      have HN : Hid (N = n + (headBytes s q m ++ body D k).length) := hN
      have HO : Hid (wr.ownsRow B 5 1 _ N (Lib.byteCells (l ++ (headBytes s q m ++ body D k)))) := ho
      have HI : Hid (Bytes wr (D k).ao (D k).g (D k).o (D k).n (D k).l) := hit
      have HK : Hid (Kept B w wr) := hkr
      have hBr : B ≤ wr.heap.size := by omega
      have hul := Lib.uvarint_length64 (x := (D k).n) (by omega)
      have hbare := hl.bare k hlt
      clear ho hit hkr hN hl hss hsm hbl hla
      go_wp2_with fail
      refine (uv_any B N ((D k).n : Int) (by omega) (by omega) _ _ wr HO.out hBr (by omega)).mono ?_
      rintro e w3 ⟨v3, rfl, ho3, hk3⟩
      have HK3 : Hid (Kept B w w3) := HK.out.trans hk3
      have HI3 : Hid (Bytes w3 (D k).ao (D k).g (D k).o (D k).n (D k).l) := (HL.out.item k hlt).below ((hlw.trans HK.out.below).trans hk3.below) (fun hn => by have := (HL.out.item k hlt).lt hn; have := HB.out; omega)
      have hB3 : B ≤ w3.heap.size := by have := hk3.below.size; omega
      have HO3 : Hid (w3.ownsRow B 5 1 v3 (N + (Lib.uvarint ((D k).n : Int).toNat).length) (Lib.byteCells (l ++ (headBytes s q m ++ body D k)) ++ Lib.byteCells (Lib.uvarint ((D k).n : Int).toNat))) := ho3
      rw [Int.toNat_natCast] at HO3
      clear ho3 hk3 HO HI HK hc
      have hnext : n + (headBytes s q m ++ body D (k + 1)).length = N + (Lib.uvarint (D k).n).length + (D k).n := by
        show n + (headBytes s q m ++ (body D k ++ (Lib.uvarint (D k).n ++ (D k).l))).length = _
        have e := (HD.out k hlt).2
        have e2 := HN.out
        rw [List.length_append] at e2
        rw [List.length_append, List.length_append, List.length_append]
        omega
      have hnextL : Lib.byteCells (l ++ (headBytes s q m ++ body D (k + 1))) = (Lib.byteCells (l ++ (headBytes s q m ++ body D k)) ++ Lib.byteCells (Lib.uvarint (D k).n)) ++ Lib.byteCells (D k).l := by
        show Lib.byteCells (l ++ (headBytes s q m ++ (body D k ++ (Lib.uvarint (D k).n ++ (D k).l)))) = _
        rw [← Lib.byteCells_append, ← Lib.byteCells_append]
        simp only [List.append_assoc]
      have HX : Hid (n + (headBytes s q m ++ body D (k + 1)).length = N + (Lib.uvarint (D k).n).length + (D k).n) := hnext
      have HY : Hid (Lib.byteCells (l ++ (headBytes s q m ++ body D (k + 1))) = (Lib.byteCells (l ++ (headBytes s q m ++ body D k)) ++ Lib.byteCells (Lib.uvarint (D k).n)) ++ Lib.byteCells (D k).l) := hnextL
      clear hnext hnextL
      obtain ⟨d, hd⟩ : ∃ d, d = D k := ⟨_, rfl⟩
      rw [← hd] at HX HY HO3 HI3 hdk hin hul hbare ⊢
      have HDk : Hid (d = D k) := hd
      clear hd
      obtain ⟨dao, dg, dof, dn, dcap, dl⟩ := d
      dsimp only at HX HY HO3 HI3 hdk hin hul hbare ⊢
      cases dao with
      | none =>
        obtain rfl : dn = 0 := by
          rcases Nat.eq_zero_or_pos dn with h | h
          · exact h
          · exact absurd (HI3.out.addr h) (by simp)
        obtain rfl : dcap = 0 := hbare rfl
        obtain rfl : dl = [] := List.eq_nil_of_length_eq_zero HI3.out.len
        go_wp2_with (at_builtin; refine wpList_append_own_none rfl _ _ 32 rfl B 5 i0 1 Try.underlying32 hi _ _ _ rfl HO3.out rfl ?_)
        go_roundw
        case rel =>
          refine ⟨k + 1, by omega, by go_num, ?_, HK3.out⟩
          rw [HX.out, HY.out]
          simpa [Lib.byteCells] using HO3.out
        case measure => simp [intOf]; omega
      | some ad =>
        have hcl : ∀ j u, (Lib.byteCells dl)[j]? = some u → w3.cell? (ad.add j) = some u := by
          intro j u hu
          have hj : j < dl.length := by have := (List.getElem?_eq_some_iff.1 hu).1; rwa [byteCells_length] at this
          have hl := HI3.out.len
          obtain rfl := Option.some.inj (HI3.out.addr (by omega))
          rw [Addr.add_lit, HI3.out.cell j hj, ← hu, byteCells_getElem? dl j hj]
        have h1c : ∀ u ∈ Lib.byteCells dl, u.oneCell' = true := by
          intro u hu
          obtain ⟨_, _, rfl⟩ := List.mem_map.1 hu
          rfl
        have hll : (Lib.byteCells dl).length = dn * 1 := by rw [byteCells_length, HI3.out.len, Nat.mul_one]
        have HCL : Hid (∀ j u, (Lib.byteCells dl)[j]? = some u → w3.cell? (ad.add j) = some u) := hcl
        have H1C : Hid (∀ u ∈ Lib.byteCells dl, u.oneCell' = true) := h1c
        have HLL : Hid ((Lib.byteCells dl).length = dn * 1) := hll
        clear hcl h1c hll
        go_wp2_with (at_builtin; refine wpList_append_own _ rfl _ _ 32 rfl B 5 i0 (.int .u8 0) 1 1 Try.underlying32 hi hz0 hz1 hz2 rfl (by decide) _ _ _ rfl HO3.out ad dn dcap (Lib.byteCells dl) rfl HLL.out HCL.out H1C.out (by unfold maxLen; omega) (by omega) hB3 ?_)
        intro v4 w4 ho4 hg4 _
        have HK4 : Hid (Kept B w w4) := HK3.out.grown HO3.out hg4 hB3
        have HO4 : Hid (w4.ownsRow B 5 1 v4 (N + (Lib.uvarint dn).length + dn) ((Lib.byteCells (l ++ (headBytes s q m ++ body D k)) ++ Lib.byteCells (Lib.uvarint dn)) ++ Lib.byteCells dl)) := by show World.ownsRow _ _ _ _ _ _ _; rw [List.append_assoc]; exact ho4
        clear ho4 hg4
        go_wp2_with fail
        go_roundw
        case rel =>
          refine ⟨k + 1, by omega, by go_num, ?_, HK4.out⟩
          rw [HX.out, HY.out]
          exact HO4.out
        case measure => simp [intOf]; omega
    · obtain rfl : k = m := by omega
      go_wp2_with fail
      go_ret
      exact ⟨_, rfl, ho, hkr⟩

set_option maxHeartbeats 1000000 in
set_option maxRecDepth 100000 in
theorem zzpays_any (B n : Nat) (s q : Int) (h0 : 0 ≤ q) (h1 : q < 18446744073709551616) (ao : Option Addr) (g o m c : Nat) (D : Nat → Item) (hm : m ≤ 1048576) (sv : Value) (l : List UInt8) (wl w : World) (HL : Hid (Lists wl ao g o m D)) (HB : Hid (wl.heap.size = B)) (hlw : Below B wl w)
    (hown : w.ownsRow B 5 1 sv n (Lib.byteCells l)) (hBw : B ≤ w.heap.size) (hlim : n + 24 * m + sumN D m ≤ 1048576) :
    Calls Try.prog 24 #[.int .i64 s, .int .u64 q, .slice ao m c, sv] w fun e w' => ∃ v', e = .returned v' ∧ w'.ownsRow B 5 1 v' (n + (headBytes s q m ++ body D m).length) (Lib.byteCells (l ++ (headBytes s q m ++ body D m))) ∧ Kept B w w' := by
  go_enter Try.func24, Try.ntmps24
  go_wp2_with fail
  refine (pays_any B n s q h0 h1 ao g o m c D hm sv l wl _ HL HB hlw hown hBw hlim).mono ?_
  rintro e w1 ⟨v1, rfl, ho1, hk1⟩
  go_wp2_with fail
  go_ret
  exact ⟨v1, rfl, ho1, hk1⟩

#print axioms zzpays_any
end Go.Proofs.Qxb6604373a
