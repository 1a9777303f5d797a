/-
  SEAT b6604373a. THE WALK OF FnPayloadsAppendToRoundTrip (8).
-/
import Derived.Test.Qxb6604373aPays
namespace Go.Proofs.Qxb6604373a
open Go.RowKit
set_option linter.unusedVariables false

theorem body_split (D : Nat → Item) (k : Nat) : ∀ m, k < m → ∃ r, body D m = body D k ++ (Lib.uvarint (D k).n ++ ((D k).l ++ r))
  | 0, h => absurd h (by omega)
  | m + 1, h => by
    by_cases e : k = m
    · subst e
      exact ⟨[], by show body D k ++ (Lib.uvarint (D k).n ++ (D k).l) = _; rw [List.append_nil]⟩
    · obtain ⟨r, hr⟩ := body_split D k m (by omega)
      refine ⟨r ++ (Lib.uvarint (D m).n ++ (D m).l), ?_⟩
      show body D m ++ (Lib.uvarint (D m).n ++ (D m).l) = _
      rw [hr]
      simp only [List.append_assoc]

/-- Where payload k's length begins. -/
def offs (l3 hd : List UInt8) (D : Nat → Item) (k : Nat) : Nat := l3.length + hd.length + (body D k).length

theorem offs_succ (l3 hd : List UInt8) (D : Nat → Item) (k : Nat) (h : (D k).l.length = (D k).n) : offs l3 hd D (k + 1) = offs l3 hd D k + (Lib.uvarint (D k).n).length + (D k).n := by
  unfold offs
  show l3.length + hd.length + (body D k ++ (Lib.uvarint (D k).n ++ (D k).l)).length = _
  rw [List.length_append, List.length_append]
  omega

theorem offs_drop (l3 hd : List UInt8) (D : Nat → Item) (k m : Nat) (hk : k < m) : ∃ r, (l3 ++ (hd ++ body D m)).drop (offs l3 hd D k) = Lib.uvarint (D k).n ++ ((D k).l ++ r) := by
  obtain ⟨r, hr⟩ := body_split D k m hk
  refine ⟨r, ?_⟩
  rw [hr, ← List.append_assoc, ← List.append_assoc]
  have e : offs l3 hd D k = (l3 ++ hd ++ body D k).length := by unfold offs; rw [List.length_append, List.length_append]
  rw [e, List.drop_left]

theorem offs_last (l3 hd : List UInt8) (D : Nat → Item) (m : Nat) : offs l3 hd D m = (l3 ++ (hd ++ body D m)).length := by
  unfold offs; rw [List.length_append, List.length_append]; omega

theorem offs_le (l3 hd : List UInt8) (D : Nat → Item) (k m : Nat) (hk : k < m) (h : (D k).l.length = (D k).n) : offs l3 hd D k + (Lib.uvarint (D k).n).length + (D k).n ≤ (l3 ++ (hd ++ body D m)).length := by
  obtain ⟨r, hr⟩ := offs_drop l3 hd D k m hk
  have := congrArg List.length hr
  have p := Lib.uvarint_pos (D k).n
  simp only [List.length_drop, List.length_append] at this ⊢
  omega

/-- The j-th byte of payload k. -/
theorem offs_byte (l3 hd : List UInt8) (D : Nat → Item) (k m : Nat) (hk : k < m) (j : Nat) (hj : j < (D k).l.length) (hb : offs l3 hd D k + (Lib.uvarint (D k).n).length + j < (l3 ++ (hd ++ body D m)).length) :
    (l3 ++ (hd ++ body D m))[offs l3 hd D k + (Lib.uvarint (D k).n).length + j] = (D k).l[j] := by
  obtain ⟨r, hr⟩ := offs_drop l3 hd D k m hk
  have h1 : (l3 ++ (hd ++ body D m))[offs l3 hd D k + (Lib.uvarint (D k).n).length + j]? = some (D k).l[j] := by
    have h2 : ((l3 ++ (hd ++ body D m)).drop (offs l3 hd D k))[(Lib.uvarint (D k).n).length + j]? = some (D k).l[j] := by
      rw [hr, List.getElem?_append_right (by omega), show (Lib.uvarint (D k).n).length + j - (Lib.uvarint (D k).n).length = j by omega, List.getElem?_append_left hj, List.getElem?_eq_getElem hj]
    rw [List.getElem?_drop] at h2
    rw [← h2, Nat.add_assoc]
  rw [List.getElem?_eq_getElem hb] at h1
  exact Option.some.inj h1

/-- All that the walk behind the clones is told. -/
structure Ready (w4 : World) (s q : Int) (n m : Nat) (l3 : List UInt8) (D : Nat → Item) (ab : Option Addr) (gb : Nat) (ad : Option Addr) (gd : Nat) (ag : Option Addr) (gg N : Nat) : Prop where
  orig : Bytes w4 ab gb 0 n l3
  data : Lists w4 ad gd 0 m D
  got : Bytes w4 ag gg 0 N (l3 ++ (headBytes s q m ++ body D m))
  small : ∀ j, j < m → (D j).n ≤ 1048576
  big : N ≤ 3000000

set_option maxHeartbeats 4000000 in
set_option maxRecDepth 100000 in
theorem law2 (a0 a1 : Int) (a2 : Option Addr) (g2 o2 n cap2 : Nat) (D0 : Nat → Item) (a3 : Option Addr) (len3 cap3 : Nat) (w : World) (w0 : (Lit.int .i64 a0).wf = true) (w1 : (Lit.int .u64 a1).wf = true)
    (hL : Lists w a2 g2 o2 n D0) (hn : n ≤ 9223372036854775807) (hD : ∀ j, j < n → (D0 j).n ≤ 9223372036854775807) (g3 o3 : Nat) (l3 : List UInt8) (hb3 : Bytes w a3 g3 o3 len3 l3) (hm3 : len3 ≤ 9223372036854775807) :
    Calls Try.prog 8 #[.int .i64 a0, .int .u64 a1, .slice a2 n cap2, .slice a3 len3 cap3] w fun e w' => e = .returned (.bool true) ∧ Below w.heap.size w w' := by
  have hq := u64_bd a1 w1
  have HB : Hid (IntKind.i64.wrap ((IntKind.u64.wrap a0).toNat : Int) = a0) := i64_back a0 w0
  have hx0 : (IntKind.u64.wrap a0).toNat < 18446744073709551616 := by have := u64_hi a0; have := u64_lo a0; omega
  have HL : Hid (Lists w a2 g2 o2 n D0) := hL
  have HD : Hid (∀ j, j < n → (D0 j).n ≤ 9223372036854775807) := hD
  have H3 : Hid (Bytes w a3 g3 o3 len3 l3) := hb3
  have hz := zb2_any (.int .i64 a0) (.int .u64 a1) a2 g2 o2 n cap2 D0 a3 len3 cap3 w hL hn hD hm3
  clear hL hD hb3 w0 w1
  by_cases c3 : len3 ≤ 524288
  · by_cases c2 : n ≤ 16384
    · go_enter Try.func8, Try.ntmps8
      go_wp2_with fail
      refine hz.mono ?_
      rintro e wz ⟨⟨bz, rfl⟩, hwz⟩; subst wz
      clear hz
      cases bz with
      | false =>
        go_wp2
        go_ret
        exact ⟨rfl, Below.refl _ _⟩
      | true =>
        go_wp2
        go_loop [9, 10] (fun vt vi => ∃ k t : Nat, k ≤ n ∧ vi = .int .i64 k ∧ vt = .int .i64 t ∧ t = len3 + 24 * n + sumN D0 k ∧ (t ≤ 1048576 ∨ k = 0)) (fun _ vi => n - (intOf vi).toNat)
        case atStart => exact ⟨0, len3 + 24 * n, by omega, rfl, by go_num, rfl, .inr rfl⟩
        case round =>
          obtain ⟨k, t, hk, rfl, rfl, ht, hto⟩ := hrel
          have HT : Hid (t = len3 + 24 * n + sumN D0 k) := ht
          have htb : t ≤ 1048576 := by
            rcases hto with h | h
            · exact h
            · subst h; rw [ht]; show len3 + 24 * n + 0 ≤ _; omega
          clear ht hto
          by_cases hlt : k < n
          · have hl := HL.out
            obtain rfl := hl.addr (by omega)
            have hc := hl.cell k hlt
            have hdk := HD.out k hlt
            clear hl
            by_cases d1 : (D0 k).n ≤ 1048576
            · by_cases d2 : t + (D0 k).n ≤ 1048576
              · go_wp2
                go_round
                case rel => exact ⟨k + 1, t + (D0 k).n, by omega, by go_num, by go_num, by rw [HT.out]; show _ = len3 + 24 * n + (sumN D0 k + (D0 k).n); omega, .inl d2⟩
                case measure => simp [intOf]; omega
              · go_wp2
                go_ret
                exact ⟨rfl, Below.refl _ _⟩
            · go_wp2
              go_ret
              exact ⟨rfl, Below.refl _ _⟩
          · obtain rfl : k = n := by omega
            go_wp2_with fail
            have htot : len3 + 24 * k + sumN D0 k ≤ 1048576 := by have := HT.out; omega
            have hsm : ∀ j, j < k → (D0 j).n ≤ 1048576 := fun j hj => by
              have a := sumN_mono D0 (j + 1) k (by omega)
              have b : sumN D0 (j + 1) = sumN D0 j + (D0 j).n := rfl
              omega
            have HSM : Hid (∀ j, j < k → (D0 j).n ≤ 1048576) := hsm
            clear hsm HT htb HD
            -- b = zzCloneBytes(b)
            refine (clone_any a3 g3 o3 len3 cap3 l3 w H3.out (by omega)).mono ?_
            rintro e w1 ⟨vb, rfl, ob, bb⟩
            obtain ⟨ab, gb, cb, rfl, yb, lob, ncb⟩ := Bytes.own ob
            have z1 := bb.size
            have tb : 0 < len3 → gb < w1.heap.size := fun h => yb.lt h
            have HL1 : Hid (Lists w1 a2 g2 o2 k D0) := HL.out.below bb (Nat.le_refl _)
            have YB : Hid (Bytes w1 ab gb 0 len3 l3) := yb
            clear ob yb HL H3
            go_wp2_with fail
            -- data = zzCloneList(data)
            refine (clist_any a2 g2 o2 k cap2 D0 w1 HL1.out (by omega) HSM.out).mono ?_
            rintro e w2 ⟨ad, gd, cd, D, rfl, yd, same, bd⟩
            have z2 := bd.size
            have YB2 : Hid (Bytes w2 ab gb 0 len3 l3) := YB.out.below bd tb
            have YD2 : Hid (Lists w2 ad gd 0 k D) := yd
            have hs2 : sumN D k = sumN D0 k := sumN_congr D0 D k (fun j hj => (same j hj).1)
            have hsmD : Hid (∀ j, j < k → (D j).n ≤ 1048576) := fun j hj => by rw [(same j hj).1]; exact HSM.out j hj
            have htot2 : len3 + 24 * k + sumN D k ≤ 1048576 := by omega
            clear yd HL1 YB same hs2 HSM htot
            go_wp2_with fail
            -- work := zzCloneBytes(b)
            refine (clone_any ab gb 0 len3 cb l3 w2 YB2.out (by omega)).mono ?_
            rintro e w3 ⟨vw, rfl, ow, bw⟩
            have z3 := bw.size
            have tb2 : 0 < len3 → gb < w2.heap.size := fun h => by have := tb h; omega
            have YB3 : Hid (Bytes w3 ab gb 0 len3 l3) := YB2.out.below bw tb2
            clear YB2
            go_wp2_with fail
            -- got := ZZPayloadsAppendTo(sender, seq, data, work)
            refine (zzpays_any w2.heap.size len3 a0 a1 hq.1 hq.2 ad gd 0 k cd D (by omega) vw l3 w2 w3 YD2 rfl bw ow z3 htot2).mono ?_
            rintro e w4 ⟨vg, rfl, og, kg⟩
            obtain ⟨ag, gg, cg, rfl, yg, log, ncg⟩ := Bytes.own og
            have z4 := kg.below.size
            have YB4 : Hid (Bytes w4 ab gb 0 len3 l3) := YB3.out.below kg.below tb2
            have YD4 : Hid (Lists w4 ad gd 0 k D) := YD2.out.below (bw.trans kg.below) (Nat.le_refl _)
            have bel : Below w.heap.size w w4 := bb.trans ((bd.mono z1).trans ((bw.mono (by omega)).trans (kg.below.mono (by omega))))
            have hNb : len3 + (headBytes a0 a1 k ++ body D k).length ≤ 3000000 := by
              have a := headBytes_len a0 a1 hq.1 hq.2 k (by omega)
              have b := body_len D k (fun j hj => ⟨hsmD.out j hj, (YD2.out.item j hj).len⟩)
              rw [List.length_append]
              omega
            obtain ⟨N, hN⟩ : ∃ N, N = len3 + (headBytes a0 a1 k ++ body D k).length := ⟨_, rfl⟩
            rw [← hN] at yg hNb ⊢
            have YG : Hid (Bytes w4 ag gg 0 N (l3 ++ (headBytes a0 a1 k ++ body D k))) := yg
            clear og kg yg YB3 ow bb bd bw log ncg YD2 hN
            go_wp2_with fail
            refine (pre_any ag gg 0 _ cg _ ab gb 0 len3 cb l3 w4 YG.out YB4.out (by omega) (headBytes a0 a1 k ++ body D k) rfl).mono ?_
            rintro e w5 ⟨rfl, nq, rfl⟩
            -- the three numbers, read back
            have hP0 : l3.length = len3 := YB4.out.len
            have hpb : headBytes a0 a1 k ++ body D k = Lib.uvarint (IntKind.u64.wrap a0).toNat ++ (Lib.uvarint a1.toNat ++ (Lib.uvarint k ++ body D k)) := by unfold headBytes payBytes idBytes; simp only [List.append_assoc]
            have D1 : Hid ((l3 ++ (headBytes a0 a1 k ++ body D k)).drop len3 = Lib.uvarint (IntKind.u64.wrap a0).toNat ++ (Lib.uvarint a1.toNat ++ (Lib.uvarint k ++ body D k))) := by
              show _ = _
              rw [← hP0, List.drop_left, hpb]
            have hhl : (headBytes a0 a1 k).length = (Lib.uvarint (IntKind.u64.wrap a0).toNat).length + (Lib.uvarint a1.toNat).length + (Lib.uvarint k).length := by
              unfold headBytes payBytes idBytes; rw [List.length_append, List.length_append]
            obtain ⟨x0, hx0v⟩ : ∃ x0, x0 = (IntKind.u64.wrap a0).toNat := ⟨_, rfl⟩
            rw [← hx0v] at D1 HB hx0 hhl
            obtain ⟨P1, hP1⟩ : ∃ P1, P1 = len3 + (Lib.uvarint x0).length := ⟨_, rfl⟩
            have D2 : Hid ((l3 ++ (headBytes a0 a1 k ++ body D k)).drop P1 = Lib.uvarint a1.toNat ++ (Lib.uvarint k ++ body D k)) := by
              show _ = _
              rw [hP1, ← List.drop_drop, D1.out, List.drop_left]
            obtain ⟨P2, hP2⟩ : ∃ P2, P2 = P1 + (Lib.uvarint a1.toNat).length := ⟨_, rfl⟩
            have D3 : Hid ((l3 ++ (headBytes a0 a1 k ++ body D k)).drop P2 = Lib.uvarint k ++ body D k) := by
              show _ = _
              rw [hP2, ← List.drop_drop, D2.out, List.drop_left]
            have hP3 : P2 + (Lib.uvarint k).length = offs l3 (headBytes a0 a1 k) D 0 := by
              unfold offs
              show _ = l3.length + _ + 0
              omega
            have R1 := rd_any ag gg 0 _ cg _ (w4.drewN nq) (YG.out.drewN nq) (by omega) len3 x0 _ D1.out hx0
            have R2 := rd_any ag gg 0 _ cg _ (w4.drewN nq) (YG.out.drewN nq) (by omega) P1 a1.toNat _ D2.out (by omega)
            have R3 := rd_any ag gg 0 _ cg _ (w4.drewN nq) (YG.out.drewN nq) (by omega) P2 k _ D3.out (by omega)
            rw [← hP1] at R1
            rw [← hP2, show ((a1.toNat : Nat) : Int) = a1 by omega] at R2
            rw [hP3] at R3
            clear D1 D2 D3 hP1 hP2 hP3 hpb hhl hx0v
            go_wp2_with fail
            refine R1.mono ?_
            rintro e w6 ⟨rfl, hw6⟩; subst w6
            clear R1
            have hwr := HB.out
            go_wp2_with fail
            refine R2.mono ?_
            rintro e w6 ⟨rfl, hw6⟩; subst w6
            clear R2
            go_wp2_with fail
            refine R3.mono ?_
            rintro e w6 ⟨rfl, hw6⟩; subst w6
            clear R3 hwr HB
            go_wp2_with fail
            go_loopw [14, 17] (fun vi vk wr => ∃ r i m : Nat, r ≤ k ∧ vk = .int .i64 r ∧ vi = .int .i64 i ∧ Hid (i = offs l3 (headBytes a0 a1 k) D r) ∧ wr = w4.drewN m) (fun _ vk _ => k - (intOf vk).toNat)
            case atStart => exact ⟨0, _, nq, by omega, rfl, rfl, rfl, rfl⟩
            case round =>
              obtain ⟨r, i, m, hr, rfl, rfl, HI, rfl⟩ := hrel
              have hgl : (l3 ++ (headBytes a0 a1 k ++ body D k)).length = N := YG.out.len
              by_cases hrk : r < k
              · have hl := YD4.out
                obtain rfl := hl.addr (by omega)
                have hcd : w4.cell? ⟨gd, r, none⟩ = some (.slice (D r).ao (D r).n (D r).cap) := by have := hl.cell r hrk; rwa [Nat.zero_add] at this
                have hit : Hid (Bytes w4 (D r).ao (D r).g (D r).o (D r).n (D r).l) := hl.item r hrk
                have hdn := hsmD.out r hrk
                have hrk' : (r : Int) < (k : Int) := by omega
                have hle := offs_le l3 (headBytes a0 a1 k) D r k hrk (hl.item r hrk).len
                have HBY : Hid (∀ j (hj : j < (D r).l.length), ∀ J, J = i + (Lib.uvarint (D r).n).length + j → ∀ hb : J < (l3 ++ (headBytes a0 a1 k ++ body D k)).length, (l3 ++ (headBytes a0 a1 k ++ body D k))[J] = (D r).l[j]) := by
                  intro j hj J hJ hb
                  have e := HI.out
                  subst e
                  subst hJ
                  exact offs_byte l3 (headBytes a0 a1 k) D r k hrk j hj hb
                obtain ⟨rest, hdrop⟩ := offs_drop l3 (headBytes a0 a1 k) D r k hrk
                have HNX : Hid (offs l3 (headBytes a0 a1 k) D (r + 1) = i + (Lib.uvarint (D r).n).length + (D r).n) := by
                  show _ = _
                  rw [HI.out]; exact offs_succ l3 _ D r (hl.item r hrk).len
                rw [← HI.out, hgl] at hle
                rw [← HI.out] at hdrop
                have R4 := rd_any ag gg 0 N cg _ (w4.drewN m) (YG.out.drewN m) (by omega) i (D r).n _ hdrop (by omega)
                clear hl hdrop HI
                obtain ⟨I, hI⟩ : ∃ I, I = i + (Lib.uvarint (D r).n).length := ⟨_, rfl⟩
                rw [← hI] at R4 hle HNX HBY
                clear hI
                obtain ⟨d, hd⟩ : ∃ d, d = D r := ⟨_, rfl⟩
                rw [← hd] at R4 hle HNX HBY hit hcd hdn
                clear hd
                obtain ⟨dao, dg, dof, dn, dcap, dl⟩ := d
                dsimp only at R4 hle HNX HBY hit hcd hdn
                have hle' : (I : Int) + (dn : Int) ≤ (N : Int) := by omega
                have hin : (dn : Int) ≤ 1048576 := by omega
                go_wp2_with fail
                refine R4.mono ?_
                rintro e w6 ⟨rfl, hw6⟩; subst w6
                clear R4 hcd
                go_wp2_with fail
                go_loopw [19] (fun vj wr => ∃ j m2 : Nat, j ≤ dn ∧ vj = .int .i64 j ∧ wr = w4.drewN m2) (fun vj _ => dn - (intOf vj).toNat)
                case atStart => exact ⟨0, m, by omega, rfl, rfl⟩
                case round =>
                  obtain ⟨j, m2, hj, rfl, rfl⟩ := hrel
                  by_cases hjd : j < dn
                  · have hy := hit.out
                    have hlen := hy.len
                    obtain rfl := hy.addr (by omega)
                    obtain rfl := YG.out.addr (by omega)
                    obtain ⟨c, hcv⟩ : ∃ c : Int, c = (dl[j]).toNat := ⟨_, rfl⟩
                    have hc2 : w4.cell? ⟨dg, dof + j, none⟩ = some (.int .u8 c) := by rw [hcv]; exact hy.cell j (by omega)
                    have hc1 : w4.cell? ⟨gg, I + j, none⟩ = some (.int .u8 c) := by
                      have h := YG.out.cell (I + j) (by omega)
                      rw [HBY.out j (by omega) (I + j) rfl (by omega), Nat.zero_add] at h
                      rw [hcv]; exact h
                    have hjN : (I : Int) + (j : Int) < (N : Int) := by omega
                    have hjd' : (j : Int) < (dn : Int) := by omega
                    clear hy hlen hcv hgl
                    go_wp2_with fail
                    go_quiet (fail)
                    go_wp2_with fail
                    go_roundw
                    case rel => exact ⟨j + 1, _, by omega, by go_num, rfl⟩
                    case measure => simp [intOf]; omega
                  · obtain rfl : j = dn := by omega
                    clear hgl
                    go_wp2_with fail
                    go_roundw
                    case rel => exact ⟨r + 1, I + j, m2, by omega, by go_num, by go_num, HNX.out.symm, rfl⟩
                    case measure => simp [intOf]; omega
              · obtain rfl : r = k := by omega
                have hiN : i = N := by
                  have a := HI.out
                  rw [offs_last] at a
                  omega
                clear hgl
                subst hiN
                go_wp2_with fail
                go_ret
                exact ⟨by simp, below_drewN bel _⟩
    · go_enter Try.func8, Try.ntmps8
      go_wp2_with fail
      refine hz.mono ?_
      rintro e wz ⟨⟨bz, rfl⟩, hwz⟩; subst wz
      clear hz
      cases bz with
      | false =>
        go_wp2
        go_ret
        exact ⟨rfl, Below.refl _ _⟩
      | true =>
        go_wp2
        go_ret
        exact ⟨rfl, Below.refl _ _⟩
  · go_enter Try.func8, Try.ntmps8
    go_wp2_with fail
    refine hz.mono ?_
    rintro e wz ⟨⟨bz, rfl⟩, hwz⟩; subst wz
    clear hz
    cases bz with
    | false =>
      go_wp2
      go_ret
      exact ⟨rfl, Below.refl _ _⟩
    | true =>
      go_wp2
      go_ret
      exact ⟨rfl, Below.refl _ _⟩

#print axioms law2
end Go.Proofs.Qxb6604373a
